import Derived.Test.Qxb6603214aWKI
import Derived.Test.Qxb6603214aArgs
namespace Go.Proofs.Qxb6603214a
open Go.RowKit Go.Maps WalkP
set_option linter.unusedVariables false

theorem bool_true_law {w w' : World} (b : Bool) (hb : b = true) (h : LawTrue w (.returned (.bool true)) w') : LawTrue w (.returned (.bool b)) w' := by subst hb; exact h

set_option maxHeartbeats 40000000 in
set_option maxRecDepth 20000 in
theorem law6_walk (hncc : NCCSpec) (hwk : WalkSpec) (a0 a1 a2 a3 a4 a5 : Option Addr) (c0 c1 c2 c3 c4 c5 : Nat) (ss : List ByteArray) (sq ls pr sd grp : List Int) (B : Int) (hB0 : -9223372036854775808 ≤ B) (hB1 : B ≤ 9223372036854775807) (w : World)
    (h0 : ArgS w a0 c0 ss) (h1 : ArgI w a1 c1 sq) (h2 : ArgI w a2 c2 ls) (h3 : ArgI w a3 c3 pr) (h4 : ArgI w a4 c4 sd) (h5 : ArgI w a5 c5 grp) :
    Calls Try.prog 6 #[.slice a0 ss.length c0, .slice a1 sq.length c1, .slice a2 ls.length c2, .slice a3 pr.length c3, .slice a4 sd.length c4, .slice a5 grp.length c5, .int .i64 B] w (LawTrue w) := by
  have b0 := h0.len
  have b1 := h1.len
  have b2 := h2.len
  have b3 := h3.len
  have b4 := h4.len
  have b5 := h5.len
  unfold maxLen at b0 b1 b2 b3 b4 b5
  have HNCC : Hid NCCSpec := hncc
  have HWK : Hid WalkSpec := hwk
  clear hncc hwk
  go_enter Try.func6, Try.ntmps6
  go_wp2_with fail
  refine (bytes36 a0 a1 a2 a3 a4 a5 c0 c1 c2 c3 c4 c5 ss sq.length ls.length pr.length sd.length grp.length B w h0.len h1.len h2.len h3.len h4.len h5.len h0.each h0.strs).mono ?_
  rintro e w' ⟨⟨β, rfl⟩, rfl⟩
  cases β with
  | false =>
    go_wp2
    go_ret
    exact LawTrue.mk (Below.refl _ _)
  | true =>
    by_cases g0 : 4096 < ss.length
    · go_wp2
      go_ret
      exact LawTrue.mk (Below.refl _ _)
    by_cases g1 : 4096 < sq.length
    · go_wp2
      go_ret
      exact LawTrue.mk (Below.refl _ _)
    by_cases g2 : 4097 < ls.length
    · go_wp2
      go_ret
      exact LawTrue.mk (Below.refl _ _)
    by_cases g3 : 4096 < pr.length
    · go_wp2
      go_ret
      exact LawTrue.mk (Below.refl _ _)
    by_cases g4 : 4096 < sd.length
    · go_wp2
      go_ret
      exact LawTrue.mk (Below.refl _ _)
    by_cases g5 : 4096 < grp.length
    · go_wp2
      go_ret
      exact LawTrue.mk (Below.refl _ _)
    by_cases g6 : 65536 < B
    · go_wp2
      go_ret
      exact LawTrue.mk (Below.refl _ _)
    go_wp2_with fail
    refine (bytesOK_any a0 a1 a2 a3 a4 a5 c0 c1 c2 c3 c4 c5 ss sq.length ls.length pr.length sd.length grp.length w' (by omega) (by omega) (by omega) (by omega) (by omega) (by omega) h0.each h0.strs).mono ?_
    rintro e w ⟨⟨β, rfl⟩, rfl⟩
    cases β with
    | false =>
      go_wp2
      go_ret
      exact LawTrue.mk (Below.refl _ _)
    | true =>
      go_wp2_with fail
      refine (shapeOK_any a2 a3 a4 c2 c3 c4 ls pr sd ss.length sq.length w (by omega) (by omega) (by omega) (by omega) (by omega) h2.ints h3.ints h4.ints).mono ?_
      rintro e w1 ⟨β, rfl, hL, hb1⟩
      cases β with
      | false =>
        clear hL
        go_wp2
        go_ret
        exact LawTrue.mk hb1
      | true =>
        have HL : Hid (Shape ss.length sq.length ls pr sd) := hL rfl
        clear hL
        obtain ⟨b5', off5, hix5, hcell5⟩ := ints_open h5.ints
        have HC5 : Hid (∀ j, j < grp.length → w.cell? ⟨b5', off5 + j, none⟩ = some (.int .i64 (grp.getD j 0))) := hcell5
        have HX5 : Hid (∀ (k : Nat) (w' : World), k < grp.length → (Instr.indexAt 23 (.slice a5 grp.length c5) (.int .i64 k)).run Try.prog w' = .ok (.pointer (some ⟨b5', off5 + k, none⟩)) w') := fun k w' h => hix5 c5 k w' h
        clear hcell5 hix5
        go_wp2
        go_loopw [17] (fun v wr => ∃ j : Nat, j ≤ grp.length ∧ v = .int .i64 j ∧ (∀ i, i < j → InR ss.length (grp.getD i 0)) ∧ wr = w1) (fun v _ => grp.length - (intOf v).toNat)
        case atStart => exact ⟨0, Nat.zero_le _, rfl, fun i hi => by omega, rfl⟩
        case round =>
          obtain ⟨j, hj, rfl, hall, rfl⟩ := hrel
          have HAll : Hid (∀ i, i < j → InR ss.length (grp.getD i 0)) := hall
          clear hall
          by_cases hlt : j < grp.length
          · have gg : wr.cell? ⟨b5', off5 + j, none⟩ = some (.int .i64 (grp.getD j 0)) := cell_later hb1 (HC5.out j hlt)
            have hxx := fun w' => HX5.out j w' hlt
            have HGv : Hid (∀ x, grp.getD j 0 = x → 0 ≤ x → x < ss.length → ∀ i, i < j + 1 → InR ss.length (grp.getD i 0)) := fun x hx h1 h2 i hi => by
              by_cases e : i = j
              · subst e; rw [hx]; exact ⟨h1, h2⟩
              · exact HAll.out i (by omega)
            generalize hx : grp.getD j 0 = x at *
            have HGx : Hid (grp.getD j 0 = x) := hx
            clear hx
            by_cases c1' : x < 0
            · go_wp2
              go_ret
              exact LawTrue.mk hb1
            · by_cases c2' : (ss.length : Int) ≤ x
              · go_wp2
                go_ret
                exact LawTrue.mk hb1
              · go_wp2
                go_roundw
                case rel => exact ⟨j + 1, hlt, by go_num, HGv.out x rfl (by omega) (by omega), by trivial⟩
                case measure => simp [intOf]; omega
          · have HGR : Hid (∀ i, i < grp.length → InR ss.length (grp.getD i 0)) := fun i hi => HAll.out i (by omega)
            clear HC5 HX5 HAll
            as_aux_lemma =>
              go_wp2_with fail
              refine (cloneStrings_any a0 c0 ss wr (by omega) (h0.strs.below hb1 (Nat.le_refl _)) h0.nil).mono ?_
              rintro e w3 ⟨q0, d0, rfl, hb3⟩
              have hb3' := hb1.trans (hb3.mono hb1.size)
              clear hb3
              go_wp2_with fail
              refine (cloneInts_arg a1 c1 _ sq w3 rfl (by omega) (h1.ints.below hb3' (Nat.le_refl _)) h1.nil).mono ?_
              rintro e w4 ⟨q1, d1, rfl, i1, n1, hb4⟩
              have hb4' := hb3'.trans (hb4.mono hb3'.size)
              clear hb4
              go_wp2_with fail
              refine (cloneInts_arg a2 c2 _ ls w4 rfl (by omega) (h2.ints.below hb4' (Nat.le_refl _)) h2.nil).mono ?_
              rintro e w5 ⟨q2, d2, rfl, i2, n2, hb5⟩
              have hb5' := hb4'.trans (hb5.mono hb4'.size)
              have i1' := i1.below hb5 (Nat.le_refl _)
              clear hb5 i1
              go_wp2_with fail
              refine (cloneInts_arg a3 c3 _ pr w5 rfl (by omega) (h3.ints.below hb5' (Nat.le_refl _)) h3.nil).mono ?_
              rintro e w6 ⟨q3, d3, rfl, i3, n3, hb6⟩
              have hb6' := hb5'.trans (hb6.mono hb5'.size)
              have i1'' := i1'.below hb6 (Nat.le_refl _)
              have i2' := i2.below hb6 (Nat.le_refl _)
              clear hb6 i1' i2
              go_wp2_with fail
              refine (cloneInts_arg a4 c4 _ sd w6 rfl (by omega) (h4.ints.below hb6' (Nat.le_refl _)) h4.nil).mono ?_
              rintro e w7 ⟨q4, d4, rfl, i4, n4, hb7⟩
              have hb7' := hb6'.trans (hb7.mono hb6'.size)
              have j1 := i1''.below hb7 (Nat.le_refl _)
              have j2 := i2'.below hb7 (Nat.le_refl _)
              have j3 := i3.below hb7 (Nat.le_refl _)
              clear hb7 i1'' i2' i3
              go_wp2_with fail
              refine (cloneInts_arg a5 c5 _ grp w7 rfl (by omega) (h5.ints.below hb7' (Nat.le_refl _)) h5.nil).mono ?_
              rintro e w7b ⟨q5, d5, rfl, i5, n5, hb7b⟩
              have hb7b' := hb7'.trans (hb7b.mono hb7'.size)
              have j1b := j1.below hb7b (Nat.le_refl _)
              have j2b := j2.below hb7b (Nat.le_refl _)
              have j3b := j3.below hb7b (Nat.le_refl _)
              have j4b := i4.below hb7b (Nat.le_refl _)
              clear hb7b j1 j2 j3 i4
              go_wp2_with fail
              refine (runOf_any q0 q1 q2 q3 q4 _ d0 d1 _ d2 _ d3 _ d4 sq w7b (by omega) j1b).mono ?_
              rintro e w8 ⟨rfl, hrun, hb8⟩
              have hb8' := hb7b'.trans (hb8.mono hb7b'.size)
              have l2 := j2b.below hb8 (Nat.le_refl _)
              have l3 := j3b.below hb8 (Nat.le_refl _)
              have l4 := j4b.below hb8 (Nat.le_refl _)
              have l5 := i5.below hb8 (Nat.le_refl _)
              clear hb8 j1b j2b j3b j4b i5
              go_wp2_with fail
              refine (newCut20 _ w8 (HNCC.out _ _ ss.length sq.length d0 d2 d3 d4 q0 q2 q3 q4 ls pr sd sq w8 (by omega) (by omega) HL.out.lanes HL.out.senders HL.out.plen HL.out.inR rfl hrun l2 l3 l4)).mono ?_
              rintro e w9 ⟨C, Ge, Mb, T, rfl, f, tv, tg, hM⟩
              have hb9 := hM.below
              have hb9' := hb8'.trans (hb9.mono hb8'.size)
              have HBel : Hid (Below w.heap.size w w9) := hb9'
              have HRun : Hid (RunAt w9 (w7b.heap.size + 1) (.slice q0 ss.length d0) (.slice q2 ls.length d2) (.slice q3 pr.length d3) (.slice q4 sd.length d4) w7b.heap.size sq) := hrun.below hb9
              have HI2 : Hid (Ints w9 q2 ls) := l2.below hb9 (Nat.le_refl _)
              have HI3 : Hid (Ints w9 q3 pr) := l3.below hb9 (Nat.le_refl _)
              have HI4 : Hid (Ints w9 q4 sd) := l4.below hb9 (Nat.le_refl _)
              have HI5 : Hid (Ints w9 q5 grp) := l5.below hb9 (Nat.le_refl _)
              have HC0 : Hid (w9.cell? ⟨C, 0, none⟩ = some (.pointer (some ⟨w7b.heap.size + 1, 0, none⟩))) := hM.c0 (by simp)
              have HC1 : Hid (w9.cell? ⟨C, 1, none⟩ = some (.slice (some ⟨Ge, 0, none⟩) ss.length ss.length)) := hM.c1 (by simp)
              have HEv : Hid (IArr w9 Ge (evTo ls ss.length ss.length)) := hM.evs (by simp)
              have hgl : grp.length ≤ 5000 := by omega
              have hB2 : B ≤ 65536 := by omega
              have HCl : Hid (0 < grp.length → (ctxOf ss.length grp.length grp ls pr sd sq).Ok) := fun h => ctx_ok h
              have HFr : Hid (Free (ctxOf ss.length grp.length grp ls pr sd sq) (frOf (ctxOf ss.length grp.length grp ls pr sd sq))) := ctx_free HL.out.lanes HGR.out
              have HCg : Hid ((ctxOf ss.length grp.length grp ls pr sd sq).g = grp.length) := rfl
              have HCall : Hid (∀ (B' : Int) (w' : World), Below w9.heap.size w9 w' → -9223372036854775808 ≤ B' → B' ≤ 65536 → Calls Try.prog 34 #[.pointer (some ⟨C, 0, none⟩), .slice q5 grp.length d5, .int .i64 B'] w' (WalkSays (ctxOf ss.length grp.length grp ls pr sd sq) (frOf (ctxOf ss.length grp.length grp ls pr sd sq)) B' w')) := fun B' w' hb hl hu =>
                walk34 _ _ _ (HWK.out _ _ C Ge ss.length sq.length grp.length d0 d2 d3 d4 d5 q0 q2 q3 q4 q5 ls pr sd sq grp B' w' (by omega) (by omega) hgl HL.out rfl rfl HGR.out hl (by omega) 100000 (by omega) (fun hg k hk => by
                  have := runs_steps (HCl.out hg) k hk
                  rw [HCg.out] at this
                  omega) (cell_later hb HC0.out) (cell_later hb HC1.out) (HEv.out.below hb HEv.out.lt) (HRun.out.below hb) (HI2.out.below hb (Nat.le_refl _)) (HI3.out.below hb (Nat.le_refl _)) (HI4.out.below hb (Nat.le_refl _)) (HI5.out.below hb (Nat.le_refl _)))
              clear hM hrun l2 l3 l4 l5 hb9 hb9' hb8' hb7b' hb7' hb6' hb5' hb4' hb3' hb1 h0 h1 h2 h3 h4 h5 n1 n2 n3 n4 n5 HWK HNCC HRun HI2 HI3 HI4 HI5 HC0 HC1 HEv
              generalize ctxOf ss.length grp.length grp ls pr sd sq = c at *
              generalize frOf c = fr at *
              clear g0 g1 g2 g3 g4 g5 g6 b0 b1 b2 b3 b4 b5 hj hlt
              go_wp2_with fail
              refine (HCall.out B w9 (Below.refl _ _) hB0 hB2).mono ?_
              rintro e w10 ⟨hb10, x, s, ok, rfl, ho⟩
              have HO : Hid (Outs c fr B x s ok) := ho
              clear ho
              by_cases hg0 : grp.length = 0
              · have HZ : Hid (x = 1 ∧ s = 0 ∧ ok = true) := (by
                  rcases HO.out with ⟨_, r⟩ | ⟨r, _⟩ | ⟨r, _⟩
                  · exact r
                  · rw [HCg.out] at r; omega
                  · rw [HCg.out] at r; omega)
                obtain ⟨rfl, rfl, rfl⟩ := HZ.out
                clear HZ HO
                have hgz : ((grp.length : Int) == 0) = true := by simp [hg0]
                go_wp2
                go_ret
                exact LawTrue.mk (HBel.out.trans (hb10.mono HBel.out.size))
              · have hgz : ((grp.length : Int) == 0) = false := by simp; exact fun e => hg0 (by simp [e])
                have HOk := HCl.out (by omega)
                cases ok with
                | false =>
                  obtain ⟨rfl, hs⟩ := outs_no HOk HO.out
                  have HFin : Hid (LawTrue w (.returned (.bool true)) w10) := LawTrue.mk (HBel.out.trans (hb10.mono HBel.out.size))
                  clear HO HOk
                  by_cases hs0 : s = 0
                  · subst hs0
                    go_wp2
                    go_ret
                    exact HFin.out
                  · have hsb : B < s := by omega
                    have hsz : (s == 0) = false := by simpa using hs0
                    clear hs
                    go_wp2
                    go_ret
                    exact HFin.out
                | true =>
                  obtain ⟨k, hD, rfl, rfl⟩ := outs_yes HOk HFr.out HO.out
                  obtain ⟨r1, r2, r3, r4⟩ := outs_bounds HOk hD
                  rw [HCg.out] at r4
                  have HD : Hid (Done c B k) := hD
                  have HO2 : Hid (∀ x s ok, Outs c fr (st c k).steps x s ok → ok = true ∧ x = (st c k).count ∧ s = (st c k).steps) := fun x s ok h => outs_again HOk HFr.out HD.out h
                  have HO3 : Hid (∀ x s ok, Outs c fr (((st c k).steps : Int) - 1) x s ok → ok = false ∧ x = 0 ∧ (s = 0 ∨ ((st c k).steps : Int) - 1 < s)) := fun x s ok h => outs_less HOk HD.out h
                  clear hD HO HD
                  generalize (st c k).count = cn at *
                  generalize (st c k).steps = sp at *
                  have hm1 : (sp : Int) ≤ 2 * (cn : Int) * (grp.length : Int) := by
                    have : ((2 * grp.length * cn : Nat) : Int) = 2 * (cn : Int) * (grp.length : Int) := by
                      rw [Int.natCast_mul, Int.natCast_mul, Int.mul_assoc, Int.mul_comm (grp.length : Int) (cn : Int), ← Int.mul_assoc]; rfl
                    omega
                  have hm2 : 2 * (cn : Int) * (grp.length : Int) ≤ 1000000000 := by
                    have h1 : 2 * cn * grp.length ≤ 2 * 65536 * 5000 := Nat.mul_le_mul (by omega) hgl
                    have : ((2 * cn * grp.length : Nat) : Int) = 2 * (cn : Int) * (grp.length : Int) := by rw [Int.natCast_mul, Int.natCast_mul]; rfl
                    omega
                  have hw2 : IntKind.i64.wrap (2 * (cn : Int) * (grp.length : Int)) = 2 * (cn : Int) * (grp.length : Int) := by rw [IntKind.wrap_i64]; omega
                  generalize hmm : 2 * (cn : Int) * (grp.length : Int) = mm at *
                  clear r4
                  go_wp2_with fail
                  refine (HCall.out sp w10 hb10 (by omega) (by omega)).mono ?_
                  rintro e w11 ⟨hb11, x2, s2, ok2, rfl, ho2⟩
                  obtain ⟨rfl, rfl, rfl⟩ := HO2.out _ _ _ ho2
                  clear ho2
                  have hb11' := hb10.trans (hb11.mono hb10.size)
                  have hcc : ((cn : Int) != (cn : Int)) = false := by simp
                  have hpp : ((sp : Int) != (sp : Int)) = false := by simp
                  go_wp2_with fail
                  refine (HCall.out ((sp : Int) - 1) w11 hb11' (by omega) (by omega)).mono ?_
                  rintro e w12 ⟨hb12, x3, s3, ok3, rfl, ho3⟩
                  obtain ⟨rfl, rfl, hs3⟩ := HO3.out _ _ _ ho3
                  clear ho3
                  have hb12' := hb11'.trans (hb12.mono hb11'.size)
                  have HFin : Hid (LawTrue w (.returned (.bool true)) w12) := LawTrue.mk (HBel.out.trans (hb12'.mono HBel.out.size))
                  by_cases hs0 : s3 = 0
                  · subst hs0
                    go_wp2
                    go_ret
                    exact HFin.out
                  · have hsb : (sp : Int) - 1 < s3 := by omega
                    have hsz : (s3 == 0) = false := by simpa using hs0
                    clear hs3
                    go_wp2
                    go_ret
                    exact HFin.out
end Go.Proofs.Qxb6603214a
