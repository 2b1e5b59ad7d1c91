import Derived.Test.Qxb6603214aChk
import Derived.Test.Qxb6603214aModel
namespace Go.Proofs.Qxb6603214a
open Go.RowKit
set_option linter.unusedVariables false

/-- The run's shape: lanes, processes, senders. -/
structure Shape (np n : Nat) (ls pr sd : List Int) : Prop where
  lanes : Lanes np n ls
  plen : pr.length = n
  senders : Senders n sd
  own : ∀ p i : Nat, p < np → ls.getD p 0 ≤ i → (i : Int) < ls.getD (p + 1) 0 → pr.getD i 0 = p

set_option maxHeartbeats 1000000 in
theorem shapeOK_any (a2 a3 a4 : Option Addr) (c2 c3 c4 : Nat) (ls pr sd : List Int) (np n : Nat) (w : World) (hn : n ≤ 5000) (hnp : np ≤ 5000) (hz2 : ls.length ≤ 5000) (hz3 : pr.length ≤ 5000) (hz4 : sd.length ≤ 5000) (h2 : Ints w a2 ls) (h3 : Ints w a3 pr) (h4 : Ints w a4 sd) :
    Calls Try.prog 18 #[.int .i64 np, .int .i64 n, .slice a2 ls.length c2, .slice a3 pr.length c3, .slice a4 sd.length c4] w (SaysIf (Shape np n ls pr sd) w) := by
  have H2 : Hid (Ints w a2 ls) := h2
  have H3 : Hid (Ints w a3 pr) := h3
  have H4 : Hid (Ints w a4 sd) := h4
  clear h2 h3 h4
  go_enter Try.func18, Try.ntmps18
  go_wp2_with fail
  refine (lanesOK_any a2 c2 ls np n w hn hnp hz2 H2.out).mono ?_
  rintro e w1 ⟨β, rfl, hL, hb1⟩
  cases β with
  | false =>
    clear hL
    go_wp2
    go_ret
    exact SaysIf.no hb1
  | true =>
    have HL : Hid (Lanes np n ls) := hL rfl
    clear hL
    by_cases hpl : pr.length = n
    · have hpb : ((pr.length : Int) != (n : Int)) = false := by simp [hpl]
      have HP : Hid (pr.length = n) := hpl
      clear hpl
      go_wp2_with fail
      refine (sendersOK_any a4 c4 sd n w1 hn hz4 (H4.out.below hb1 (Nat.le_refl _))).mono ?_
      rintro e w2 ⟨β, rfl, hS, hb2⟩
      have hb2' := hb1.trans (hb2.mono hb1.size)
      clear hb2 hb1
      cases β with
      | false =>
        clear hS
        go_wp2
        go_ret
        exact SaysIf.no hb2'
      | true =>
        have HS : Hid (Senders n sd) := hS rfl
        clear hS
        obtain ⟨b2, off2, hix2, hcell2⟩ := ints_open H2.out
        obtain ⟨b3, off3, hix3, hcell3⟩ := ints_open H3.out
        have HC2 : Hid (∀ j, j < ls.length → w.cell? ⟨b2, off2 + j, none⟩ = some (.int .i64 (ls.getD j 0))) := hcell2
        have HC3 : Hid (∀ j, j < pr.length → w.cell? ⟨b3, off3 + j, none⟩ = some (.int .i64 (pr.getD j 0))) := hcell3
        have HX2 : Hid (∀ (c k : Nat) (w' : World), k < ls.length → (Instr.indexAt 23 (.slice a2 ls.length c) (.int .i64 k)).run Try.prog w' = .ok (.pointer (some ⟨b2, off2 + k, none⟩)) w') := fun c k w' h => hix2 c k w' h
        have HX3 : Hid (∀ (c k : Nat) (w' : World), k < pr.length → (Instr.indexAt 23 (.slice a3 pr.length c) (.int .i64 k)).run Try.prog w' = .ok (.pointer (some ⟨b3, off3 + k, none⟩)) w') := fun c k w' h => hix3 c k w' h
        clear hcell2 hcell3 hix2 hix3
        go_wp2
        go_loopw [11] (fun i wr => ∃ p : Nat, p ≤ np ∧ i = .int .i64 p ∧ (∀ q i : Nat, q < p → ls.getD q 0 ≤ i → (i : Int) < ls.getD (q + 1) 0 → pr.getD i 0 = q) ∧ Below w.heap.size w wr) (fun i _ => np - (intOf i).toNat)
        case atStart => exact ⟨0, Nat.zero_le _, rfl, fun q i hq => by omega, hb2'⟩
        case round =>
          obtain ⟨p, hp, rfl, hall, hbel⟩ := hrel
          clear hb2'
          by_cases hlt : p < np
          · have hl := HL.out.len
            have g1 : wr.cell? ⟨b2, off2 + p, none⟩ = some (.int .i64 (ls.getD p 0)) := cell_later hbel (HC2.out p (by omega))
            have hx1 := fun w' => HX2.out c2 p w' (by omega)
            have hx2 : ∀ w', (Instr.indexAt 23 (.slice a2 ls.length c2) (.int .i64 (p + 1))).run Try.prog w' = .ok (.pointer (some ⟨b2, off2 + (p + 1), none⟩)) w' := fun w' => by simpa using HX2.out c2 (p + 1) w' (by omega)
            have r1 := HL.out.lo p (by omega)
            have r2 := HL.out.up p hlt
            have r3 := HL.out.hi (p + 1) (by omega)
            obtain ⟨x, hx⟩ := Int.eq_ofNat_of_zero_le r1
            obtain ⟨y, hy⟩ := Int.eq_ofNat_of_zero_le (Int.le_trans r1 r2)
            have HLx : Hid (ls.getD p 0 = x) := hx
            have HLy : Hid (ls.getD (p + 1) 0 = y) := hy
            rw [hx] at g1 r2
            rw [hy] at r2 r3
            have g2 : Hid (w.cell? ⟨b2, off2 + (p + 1), none⟩ = some (.int .i64 y)) := (by unfold Hid; rw [← hy]; exact HC2.out (p + 1) (by omega))
            clear hx hy r1 hl
            go_wp2
            go_loopw [12] (fun i wq => ∃ j : Nat, x ≤ j ∧ j ≤ y ∧ i = .int .i64 j ∧ (∀ i : Nat, x ≤ i → i < j → pr.getD i 0 = p) ∧ Below w.heap.size w wq) (fun i _ => y - (intOf i).toNat)
            case atStart => exact ⟨x, Nat.le_refl _, by omega, rfl, fun i h1 h2 => by omega, hbel⟩
            case round =>
              obtain ⟨j, hj1, hj2, rfl, hin, hbel2⟩ := hrel
              have g3 : wr.cell? ⟨b2, off2 + (p + 1), none⟩ = some (.int .i64 y) := cell_later hbel2 g2.out
              clear g1 hx1
              by_cases hjy : j < y
              · have hjp : j < pr.length := by rw [HP.out]; omega
                have g4 : wr.cell? ⟨b3, off3 + j, none⟩ = some (.int .i64 (pr.getD j 0)) := cell_later hbel2 (HC3.out j hjp)
                have hx3 := fun w' => HX3.out c3 j w' hjp
                by_cases e : pr.getD j 0 = p
                · rw [e] at g4
                  have HE : Hid (pr.getD j 0 = p) := e
                  clear e
                  go_wp2
                  go_roundw
                  case rel =>
                    refine ⟨j + 1, by omega, by omega, by go_num, fun i h1 h2 => ?_, hbel2⟩
                    by_cases e : i = j
                    · subst e; exact HE.out
                    · exact hin i h1 (by omega)
                  case measure => simp [intOf]; omega
                · generalize pr.getD j 0 = v at *
                  have hvb : (v != (p : Int)) = true := by simpa using e
                  go_wp2
                  go_ret
                  exact SaysIf.no hbel2
              · have ey : j = y := by omega
                subst ey
                go_wp2
                go_roundw
                case rel =>
                  refine ⟨p + 1, by omega, by go_num, fun q i hq h1 h2 => ?_, hbel2⟩
                  by_cases e : q = p
                  · subst e
                    rw [HLx.out] at h1
                    rw [HLy.out] at h2
                    exact hin i (by omega) (by omega)
                  · exact hall q i (by omega) h1 h2
                case measure => simp [intOf]; omega
          · have e : p = np := by omega
            subst e
            go_wp2
            go_ret
            exact SaysIf.yes ⟨HL.out, HP.out, HS.out, hall⟩ hbel
    · have hpb : ((pr.length : Int) != (n : Int)) = true := by simp; omega
      go_wp2
      go_ret
      exact SaysIf.no hb1

set_option maxHeartbeats 1000000 in
theorem seqsOK_any (a2 a3 : Option Addr) (c2 c3 : Nat) (ls sq : List Int) (np n : Nat) (w : World) (hn : n ≤ 5000) (hnp : np ≤ 5000) (hL : Lanes np n ls) (hql : sq.length = n) (h2 : Ints w a2 ls) (h3 : Ints w a3 sq) :
    Calls Try.prog 19 #[.slice a2 ls.length c2, .slice a3 sq.length c3] w (SaysIf (∀ p i : Nat, p < np → ls.getD p 0 ≤ i → (i : Int) < ls.getD (p + 1) 0 → sq.getD i 0 = i - ls.getD p 0 + 1) w) := by
  obtain ⟨b2, off2, hix2, hcell2⟩ := ints_open h2
  obtain ⟨b3, off3, hix3, hcell3⟩ := ints_open h3
  have HL : Hid (Lanes np n ls) := hL
  have HP : Hid (sq.length = n) := hql
  have HC2 : Hid (∀ j, j < ls.length → w.cell? ⟨b2, off2 + j, none⟩ = some (.int .i64 (ls.getD j 0))) := hcell2
  have HC3 : Hid (∀ j, j < sq.length → w.cell? ⟨b3, off3 + j, none⟩ = some (.int .i64 (sq.getD j 0))) := hcell3
  have HX2 : Hid (∀ (c k : Nat) (w' : World), k < ls.length → (Instr.indexAt 23 (.slice a2 ls.length c) (.int .i64 k)).run Try.prog w' = .ok (.pointer (some ⟨b2, off2 + k, none⟩)) w') := fun c k w' h => hix2 c k w' h
  have HX3 : Hid (∀ (c k : Nat) (w' : World), k < sq.length → (Instr.indexAt 23 (.slice a3 sq.length c) (.int .i64 k)).run Try.prog w' = .ok (.pointer (some ⟨b3, off3 + k, none⟩)) w') := fun c k w' h => hix3 c k w' h
  have hl1 : ls.length ≤ np + 1 := by have := hL.len; omega
  have hl2 : np + 1 ≤ ls.length := by have := hL.len; omega
  clear hcell2 hcell3 hix2 hix3 h2 h3 hL hql
  go_enter Try.func19, Try.ntmps19
  go_wp2
  go_loopw [5] (fun i wr => ∃ p : Nat, p ≤ np ∧ i = .int .i64 p ∧ (∀ q i : Nat, q < p → ls.getD q 0 ≤ i → (i : Int) < ls.getD (q + 1) 0 → sq.getD i 0 = i - ls.getD q 0 + 1) ∧ Below w.heap.size w wr) (fun i _ => np - (intOf i).toNat)
  case atStart => exact ⟨0, Nat.zero_le _, rfl, fun q i hq => by omega, Below.refl _ _⟩
  case round =>
    obtain ⟨p, hp, rfl, hall, hbel⟩ := hrel
    by_cases hlt : p < np
    · have g1 : wr.cell? ⟨b2, off2 + p, none⟩ = some (.int .i64 (ls.getD p 0)) := cell_later hbel (HC2.out p (by omega))
      have hx1 := fun w' => HX2.out c2 p w' (by omega)
      have hx2 : ∀ w', (Instr.indexAt 23 (.slice a2 ls.length c2) (.int .i64 (p + 1))).run Try.prog w' = .ok (.pointer (some ⟨b2, off2 + (p + 1), none⟩)) w' := fun w' => by simpa using HX2.out c2 (p + 1) w' (by omega)
      have r1 := HL.out.lo p (by omega)
      have r2 := HL.out.up p hlt
      have r3 := HL.out.hi (p + 1) (by omega)
      obtain ⟨x, hx⟩ := Int.eq_ofNat_of_zero_le r1
      obtain ⟨y, hy⟩ := Int.eq_ofNat_of_zero_le (Int.le_trans r1 r2)
      have HLx : Hid (ls.getD p 0 = x) := hx
      have HLy : Hid (ls.getD (p + 1) 0 = y) := hy
      rw [hx] at g1 r2
      rw [hy] at r2 r3
      have g1' : Hid (w.cell? ⟨b2, off2 + p, none⟩ = some (.int .i64 x)) := (by unfold Hid; rw [← hx]; exact HC2.out p (by omega))
      have g2 : Hid (w.cell? ⟨b2, off2 + (p + 1), none⟩ = some (.int .i64 y)) := (by unfold Hid; rw [← hy]; exact HC2.out (p + 1) (by omega))
      clear hx hy r1
      go_wp2
      go_loopw [6] (fun i wq => ∃ j : Nat, x ≤ j ∧ j ≤ y ∧ i = .int .i64 j ∧ (∀ i : Nat, x ≤ i → i < j → sq.getD i 0 = i - x + 1) ∧ Below w.heap.size w wq) (fun i _ => y - (intOf i).toNat)
      case atStart => exact ⟨x, Nat.le_refl _, by omega, rfl, fun i h1 h2 => by omega, hbel⟩
      case round =>
        obtain ⟨j, hj1, hj2, rfl, hin, hbel2⟩ := hrel
        have g3 : wr.cell? ⟨b2, off2 + (p + 1), none⟩ = some (.int .i64 y) := cell_later hbel2 g2.out
        have g5 : wr.cell? ⟨b2, off2 + p, none⟩ = some (.int .i64 x) := cell_later hbel2 g1'.out
        clear g1
        by_cases hjy : j < y
        · have hjp : j < sq.length := by rw [HP.out]; omega
          have g4 : wr.cell? ⟨b3, off3 + j, none⟩ = some (.int .i64 (sq.getD j 0)) := cell_later hbel2 (HC3.out j hjp)
          have hx3 := fun w' => HX3.out c3 j w' hjp
          generalize hvv : sq.getD j 0 = v at g4
          have HV : Hid (sq.getD j 0 = v) := hvv
          clear hvv
          by_cases e : v = j - x + 1
          · have hvb : (v != ((j : Int) - x + 1)) = false := by simpa using e
            have HE : Hid (v = j - x + 1) := e
            clear e
            go_wp2
            go_quiet (fail)
            go_wp2
            go_roundw
            case rel =>
              refine ⟨j + 1, by omega, by omega, by go_num, fun i h1 h2 => ?_, below_drewN hbel2 _⟩
              by_cases e : i = j
              · subst e; rw [HV.out]; exact HE.out
              · exact hin i h1 (by omega)
            case measure => simp [intOf]; omega
          · have hvb : (v != ((j : Int) - x + 1)) = true := by simpa using e
            clear e
            go_wp2
            go_quiet (fail)
            go_wp2
            go_ret
            exact SaysIf.no (below_drewN hbel2 _)
        · have ey : j = y := by omega
          subst ey
          go_wp2
          go_roundw
          case rel =>
            refine ⟨p + 1, by omega, by go_num, fun q i hq h1 h2 => ?_, hbel2⟩
            by_cases e : q = p
            · subst e
              rw [HLx.out] at h1 ⊢
              rw [HLy.out] at h2
              exact hin i (by omega) (by omega)
            · exact hall q i (by omega) h1 h2
          case measure => simp [intOf]; omega
    · have e : p = np := by omega
      subst e
      go_wp2
      go_ret
      exact SaysIf.yes hall hbel
end Go.Proofs.Qxb6603214a
