import Derived.Test.Qxb6603214aMem
import Derived.Deep.QuietTactic
import Derived.BigQuiet
namespace Go.Proofs.Qxb6603214a
open Go.RowKit
set_option linter.unusedVariables false

/-! ### Tests of which only the yes is used -/
/-- 'It answers a bool; where that is true, P; no old memory has turned.' -/
def SaysIf (P : Prop) (w : World) (e : Ending) (w' : World) : Prop := ∃ β, e = .returned (.bool β) ∧ (β = true → P) ∧ Below w.heap.size w w'
theorem SaysIf.no {P : Prop} {w w' : World} (h : Below w.heap.size w w') : SaysIf P w (.returned (.bool false)) w' := ⟨false, rfl, fun h => by simp at h, h⟩
theorem SaysIf.yes {P : Prop} {w w' : World} (p : P) (h : Below w.heap.size w w') : SaysIf P w (.returned (.bool true)) w' := ⟨true, rfl, fun _ => p, h⟩

/-- 'lanes' covers 'n' events of 'np' processes. -/
structure Lanes (np n : Nat) (ls : List Int) : Prop where
  len : ls.length = np + 1
  first : ls.getD 0 0 = 0
  last : ls.getD np 0 = n
  up : ∀ p, p < np → ls.getD p 0 ≤ ls.getD (p + 1) 0

set_option maxHeartbeats 400000 in
theorem lanesOK_any (a : Option Addr) (c : Nat) (ls : List Int) (np n : Nat) (w : World) (hn : n ≤ 5000) (hnp : np ≤ 5000) (hz : ls.length ≤ 5000) (hc : Ints w a ls) :
    Calls Try.prog 9 #[.int .i64 np, .int .i64 n, .slice a ls.length c] w (SaysIf (Lanes np n ls) w) := by
  obtain ⟨b, off, hix, hcell⟩ := ints_open hc
  clear hc
  by_cases hl : ls.length = np + 1
  · have hl1 : ((ls.length : Int) != (np : Int) + 1) = false := by rw [hl]; simp
    have hix0 : ∀ w', (Instr.indexAt 23 (.slice a ls.length c) (.int .i64 0)).run Try.prog w' = .ok (.pointer (some ⟨b, off, none⟩)) w' := fun w' => by simpa using hix c 0 w' (by omega)
    have hc0 : w.cell? ⟨b, off, none⟩ = some (.int .i64 (ls.getD 0 0)) := by simpa using hcell 0 (by omega)
    have HL : Hid (ls.length = np + 1) := hl
    have hlt : np < ls.length := by omega
    have hc1 := hcell np hlt
    have eg : ls.getD np 0 = ls[np] := by simp [hlt]
    clear hl
    by_cases hx : ls.getD 0 0 = 0
    · rw [hx] at hc0
      have HX : Hid (ls.getD 0 0 = 0) := hx
      clear hx
      by_cases hy : ls[np] = n
      · have HY : Hid (ls.getD np 0 = n) := by rw [eg]; exact hy
        rw [eg, hy] at hc1
        clear hy eg
        have HC : Hid (∀ j, j < ls.length → w.cell? ⟨b, off + j, none⟩ = some (.int .i64 (ls.getD j 0))) := hcell
        clear hcell
        go_enter Try.func9, Try.ntmps9
        go_wp2
        go_loopw [7] (fun i wr => ∃ k : Nat, k ≤ np ∧ i = .int .i64 k ∧ (∀ p, p < k → ls.getD p 0 ≤ ls.getD (p + 1) 0) ∧ Below w.heap.size w wr) (fun i _ => np - (intOf i).toNat)
        case atStart => exact ⟨0, Nat.zero_le _, rfl, fun p hp => by omega, Below.refl _ _⟩
        case round =>
          obtain ⟨k, hk, rfl, hall, hbel⟩ := hrel
          by_cases hkn : k < np
          · have hk1 : k < ls.length := by have := HL.out; omega
            have hk2 : k + 1 < ls.length := by have := HL.out; omega
            have g1 : wr.cell? ⟨b, off + k, none⟩ = some (.int .i64 (ls.getD k 0)) := cell_later hbel (HC.out k hk1)
            have g2 : wr.cell? ⟨b, off + (k + 1), none⟩ = some (.int .i64 (ls.getD (k + 1) 0)) := cell_later hbel (HC.out (k + 1) hk2)
            have hix1 : ∀ w', (Instr.indexAt 23 (.slice a ls.length c) (.int .i64 (k + 1))).run Try.prog w' = .ok (.pointer (some ⟨b, off + (k + 1), none⟩)) w' := fun w' => by simpa using hix c (k + 1) w' hk2
            generalize hx : ls.getD k 0 = x at g1
            generalize hy : ls.getD (k + 1) 0 = y at g2
            have HXk : Hid (ls.getD k 0 = x) := hx
            have HYk : Hid (ls.getD (k + 1) 0 = y) := hy
            clear hx hy
            by_cases hxy : y < x
            · go_wp2
              go_quiet (fail)
              go_wp2
              go_ret
              exact SaysIf.no (below_drewN hbel _)
            · go_wp2
              go_quiet (fail)
              go_wp2
              go_roundw
              case rel =>
                refine ⟨k + 1, by omega, by go_num, fun p hp => ?_, below_drewN hbel _⟩
                by_cases e : p = k
                · subst e; rw [HXk.out, HYk.out]; omega
                · exact hall p (by omega)
              case measure => simp [intOf]; omega
          · go_wp2
            go_ret
            exact SaysIf.yes ⟨HL.out, HX.out, HY.out, fun p hp => hall p (by omega)⟩ hbel
      · have hyb : (ls[np] != (n : Int)) = true := by simpa using hy
        go_enter Try.func9, Try.ntmps9
        go_wp2
        go_ret
        exact SaysIf.no (Below.refl _ _)
    · generalize ls.getD 0 0 = x at *
      have hxb : (x != 0) = true := by simpa using hx
      go_enter Try.func9, Try.ntmps9
      go_wp2
      go_ret
      exact SaysIf.no (Below.refl _ _)
  · have hl1 : ((ls.length : Int) != (np : Int) + 1) = true := by simp; omega
    go_enter Try.func9, Try.ntmps9
    go_wp2
    go_ret
    exact SaysIf.no (Below.refl _ _)

/-- 'sender' has 'n' entries, each below 'n'. -/
structure Senders (n : Nat) (zs : List Int) : Prop where
  len : zs.length = n
  lt : ∀ j, j < n → zs.getD j 0 < n

set_option maxHeartbeats 400000 in
theorem sendersOK_any (a : Option Addr) (c : Nat) (zs : List Int) (n : Nat) (w : World) (hn : n ≤ 5000) (hz : zs.length ≤ 5000) (hc : Ints w a zs) :
    Calls Try.prog 10 #[.slice a zs.length c, .int .i64 n] w (SaysIf (Senders n zs) w) := by
  obtain ⟨b, off, hix, hcell⟩ := ints_open hc
  clear hc
  by_cases hl : zs.length = n
  · have hl1 : ((zs.length : Int) != (n : Int)) = false := by rw [hl]; simp
    subst hl
    go_enter Try.func10, Try.ntmps10
    go_wp2
    go_loop [5] (fun i => ∃ k : Nat, k ≤ zs.length ∧ i = .int .i64 k ∧ ∀ j, j < k → zs.getD j 0 < zs.length) (fun i => zs.length - (intOf i).toNat)
    case atStart => exact ⟨0, Nat.zero_le _, rfl, fun j hj => by omega⟩
    case round =>
      obtain ⟨k, hk, rfl, hall⟩ := hrel
      by_cases hlt : k < zs.length
      · have g1 := hcell k hlt
        generalize hx : zs.getD k 0 = x at g1
        have HX : Hid (zs.getD k 0 = x) := hx
        clear hx hcell
        go_wp2
        · go_ret
          exact SaysIf.no (Below.refl _ _)
        · go_round
          case rel =>
            refine ⟨k + 1, by omega, by go_num, fun j hj => ?_⟩
            by_cases e : j = k
            · subst e; rw [HX.out]; omega
            · exact hall j (by omega)
          case measure => simp [intOf]; omega
      · go_wp2
        go_ret
        exact SaysIf.yes ⟨rfl, fun j hj => hall j (by omega)⟩ (Below.refl _ _)
  · have hl1 : ((zs.length : Int) != (n : Int)) = true := by simp; omega
    go_enter Try.func10, Try.ntmps10
    go_wp2
    go_ret
    exact SaysIf.no (Below.refl _ _)
end Go.Proofs.Qxb6603214a
