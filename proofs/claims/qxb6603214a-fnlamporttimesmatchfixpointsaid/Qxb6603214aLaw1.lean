import Derived.Test.Qxb6603214aArgs
import Derived.Test.Qxb6603214aLWalk
namespace Go.Proofs.Qxb6603214a
open Go.RowKit
set_option linter.unusedVariables false

set_option maxHeartbeats 400000 in
theorem lamport14 {n : Nat} {fst : Nat → Bool} {sd : List Int} (R : Nat) (w : World) (h : Calls Try.prog 37 #[.pointer (some ⟨R, 0, none⟩)] w (ModelMade n fst sd w)) : Calls Try.prog 14 #[.pointer (some ⟨R, 0, none⟩)] w (ModelMade n fst sd w) := by
  have H : Hid (Calls Try.prog 37 #[.pointer (some ⟨R, 0, none⟩)] w (ModelMade n fst sd w)) := h
  clear h
  go_enter Try.func14, Try.ntmps14
  go_wp2_with fail
  refine H.out.mono ?_
  rintro e w' ⟨g, t, rfl, r1, r2, r3⟩
  go_wp2
  go_ret
  exact ⟨g, t, rfl, r1, r2, r3⟩

set_option maxHeartbeats 2000000 in
theorem law1_walk (a0 a1 a2 a3 a4 : Option Addr) (c0 c1 c2 c3 c4 : Nat) (ss : List ByteArray) (sq ls pr sd : List Int) (w : World)
    (h0 : ArgS w a0 c0 ss) (h1 : ArgI w a1 c1 sq) (h2 : ArgI w a2 c2 ls) (h3 : ArgI w a3 c3 pr) (h4 : ArgI w a4 c4 sd) :
    Calls Try.prog 3 #[.slice a0 ss.length c0, .slice a1 sq.length c1, .slice a2 ls.length c2, .slice a3 pr.length c3, .slice a4 sd.length c4] w (LawTrue w) := by
  have b0 := h0.len
  have b1 := h1.len
  have b2 := h2.len
  have b3 := h3.len
  have b4 := h4.len
  unfold maxLen at b0 b1 b2 b3 b4
  go_enter Try.func3, Try.ntmps3
  go_wp2_with fail
  refine (bytes7 a0 a1 a2 a3 a4 c0 c1 c2 c3 c4 ss sq.length ls.length pr.length sd.length w h0.len h1.len h2.len h3.len h4.len h0.each h0.strs).mono ?_
  rintro e w' ⟨⟨β, rfl⟩, rfl⟩
  cases β with
  | false =>
    go_wp2
    go_ret
    exact LawTrue.mk (Below.refl _ _)
  | true =>
    by_cases g0 : 4096 < ss.length
    · go_wp2
      go_ret
      exact LawTrue.mk (Below.refl _ _)
    by_cases g1 : 4096 < sq.length
    · go_wp2
      go_ret
      exact LawTrue.mk (Below.refl _ _)
    by_cases g2 : 4097 < ls.length
    · go_wp2
      go_ret
      exact LawTrue.mk (Below.refl _ _)
    by_cases g3 : 4096 < pr.length
    · go_wp2
      go_ret
      exact LawTrue.mk (Below.refl _ _)
    by_cases g4 : 4096 < sd.length
    · go_wp2
      go_ret
      exact LawTrue.mk (Below.refl _ _)
    go_wp2_with fail
    refine (bytesOK_any a0 a1 a2 a3 a4 none c0 c1 c2 c3 c4 0 ss sq.length ls.length pr.length sd.length 0 w' (by omega) (by omega) (by omega) (by omega) (by omega) (by omega) h0.each h0.strs).mono ?_
    rintro e w ⟨⟨β, rfl⟩, rfl⟩
    cases β with
    | false =>
      go_wp2
      go_ret
      exact LawTrue.mk (Below.refl _ _)
    | true =>
      go_wp2_with fail
      refine (lanesOK_any a2 c2 ls ss.length sq.length w (by omega) (by omega) (by omega) h2.ints).mono ?_
      rintro e w1 ⟨β, rfl, hL, hb1⟩
      cases β with
      | false =>
        clear hL
        go_wp2
        go_ret
        exact LawTrue.mk hb1
      | true =>
        have HL : Hid (Lanes ss.length sq.length ls) := hL rfl
        clear hL
        go_wp2_with fail
        refine (sendersOK_any a4 c4 sd sq.length w1 (by omega) (by omega) (h4.ints.below hb1 (Nat.le_refl _))).mono ?_
        rintro e w2 ⟨β, rfl, hS, hb2⟩
        have hb2' := hb1.trans (hb2.mono hb1.size)
        clear hb2
        cases β with
        | false =>
          clear hS
          go_wp2
          go_ret
          exact LawTrue.mk hb2'
        | true =>
          have HS : Hid (Senders sq.length sd) := hS rfl
          clear hS
          go_wp2_with fail
          refine (cloneStrings_any a0 c0 ss w2 (by omega) (h0.strs.below hb2' (Nat.le_refl _)) h0.nil).mono ?_
          rintro e w3 ⟨q0, d0, rfl, hb3⟩
          have hb3' := hb2'.trans (hb3.mono hb2'.size)
          clear hb3
          go_wp2_with fail
          refine (cloneInts_arg a1 c1 _ sq w3 rfl (by omega) (h1.ints.below hb3' (Nat.le_refl _)) h1.nil).mono ?_
          rintro e w4 ⟨q1, d1, rfl, i1, n1, hb4⟩
          have hb4' := hb3'.trans (hb4.mono hb3'.size)
          clear hb4
          go_wp2_with fail
          refine (cloneInts_ne a2 c2 _ ls w4 rfl (by omega) (by have := HL.out.len; omega) (h2.ints.below hb4' (Nat.le_refl _)) h2.nil).mono ?_
          rintro e w5 ⟨g2, rfl, i2, hb5⟩
          have hb5' := hb4'.trans (hb5.mono hb4'.size)
          have i1' := i1.below hb5 (Nat.le_refl _)
          clear hb5 i1
          go_wp2_with fail
          refine (cloneInts_arg a3 c3 _ pr w5 rfl (by omega) (h3.ints.below hb5' (Nat.le_refl _)) h3.nil).mono ?_
          rintro e w6 ⟨q3, d3, rfl, i3, n3, hb6⟩
          have hb6' := hb5'.trans (hb6.mono hb5'.size)
          have i1'' := i1'.below hb6 (Nat.le_refl _)
          have i2' := i2.below hb6 i2.lt
          clear hb6 i1' i2
          go_wp2_with fail
          refine (cloneInts_arg a4 c4 _ sd w6 rfl (by omega) (h4.ints.below hb6' (Nat.le_refl _)) h4.nil).mono ?_
          rintro e w7 ⟨q4, d4, rfl, i4, n4, hb7⟩
          have hb7' := hb6'.trans (hb7.mono hb6'.size)
          have j1 := i1''.below hb7 (Nat.le_refl _)
          have j2 := i2'.below hb7 i2'.lt
          clear hb7 i1'' i2'
          go_wp2_with fail
          refine (runOf_any q0 q1 (some ⟨g2, 0, none⟩) q3 q4 _ d0 d1 _ _ _ d3 _ d4 sq w7 (by omega) j1).mono ?_
          rintro e w8 ⟨rfl, hrun, hb8⟩
          have hb8' := hb7'.trans (hb8.mono hb7'.size)
          have l2 := j2.below hb8 j2.lt
          have l4 := i4.below hb8 (Nat.le_refl _)
          clear hb8 j1 j2 i4
          go_wp2_with fail
          refine (lamport14 _ w8 (lamportTimes_any _ _ g2 _ ss.length sq.length d0 d4 q0 q4 _ ls sd sq w8 (by omega) (by omega) HL.out HS.out rfl (Nat.le_refl _) hrun l2.ints l4)).mono ?_
          rintro e w9 ⟨g, t, rfl, ht, hF, hb9⟩
          have hb9' := hb8'.trans (hb9.mono hb8'.size)
          have m2 := l2.below hb9 l2.lt
          have m4 := l4.below hb9 (Nat.le_refl _)
          clear hb9 l2 l4
          go_wp2_with fail
          refine (model_any (some ⟨g2, 0, none⟩) q4 _ d4 ls sd ss.length sq.length w9 (by omega) (by omega) HL.out HS.out m2.ints m4).mono ?_
          rintro e w10 ⟨g', t', rfl, ht', hF', hb10⟩
          have hb10' := hb9'.trans (hb10.mono hb9'.size)
          have htt := ht.below hb10 ht.lt
          obtain rfl : t = t' := Lamp.fix_unique (HL.out.shape HS.out) hF hF'
          have hlen := hF.len
          clear hb10 ht
          go_wp2_with fail
          refine (equalInts_len _ _ _ _ _ t w10 hlen (by omega) htt.ints ht'.ints).mono ?_
          rintro e w11 ⟨rfl, hb11⟩
          have hb11' := hb10'.trans (hb11.mono hb10'.size)
          go_wp2
          go_ret
          exact LawTrue.mk hb11'
end Go.Proofs.Qxb6603214a
