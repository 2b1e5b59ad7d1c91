import Derived.Test.Qxb6604382aMem
import Derived.Deep.QuietTactic
import Derived.BigQuiet
namespace Go.Proofs.Qxb6604382a
open Go.RowKit
set_option linter.unusedVariables false

/-- 'It answers β; no old memory has turned.' -/
def SaysB (β : Bool) (w : World) (e : Ending) (w' : World) : Prop := e = .returned (.bool β) ∧ Below w.heap.size w w'
theorem SaysB.mk {β : Bool} {w w' : World} (γ : Bool) (hγ : γ = β) (h : Below w.heap.size w w') : SaysB β w (.returned (.bool γ)) w' := ⟨by rw [hγ], h⟩

theorem eq_first (xs ys : List Int) (hl : xs.length = ys.length) (h : ∀ j, j < xs.length → xs.getD j 0 = ys.getD j 0) : (xs == ys) = true := by
  rw [beq_iff_eq]
  apply List.ext_getElem hl
  intro i h1 h2
  have := h i h1
  simpa [h1, h2] using this
theorem eq_miss (xs ys : List Int) (k : Nat) (h : xs.getD k 0 ≠ ys.getD k 0) : (xs == ys) = false := by
  rw [beq_eq_false_iff_ne]
  intro e
  exact h (by rw [e])
theorem eq_len (xs ys : List Int) (h : ¬ xs.length = ys.length) : (xs == ys) = false := by
  rw [beq_eq_false_iff_ne]
  intro e
  exact h (by rw [e])

set_option maxHeartbeats 400000 in
theorem equal20 (a a' : Option Addr) (c c' : Nat) (xs ys : List Int) (w : World) (lo lo' : Nat) (hx : xs.length ≤ 10000000) (hy : ys.length ≤ 10000000) (h1 : Row lo w a (ivs xs)) (h2 : Row lo' w a' (ivs ys)) :
    Calls Try.prog 20 #[.slice a xs.length c, .slice a' ys.length c'] w (SaysB (xs == ys) w) := by
  obtain ⟨b, off, hix, hcell, _⟩ := row_open h1 Try.underlying36 Try.info3
  obtain ⟨b', off', hix', hcell', _⟩ := row_open h2 Try.underlying36 Try.info3
  rw [ivs_len] at hix hix' hcell hcell'
  clear h1 h2
  have HC : Hid (∀ j, j < xs.length → w.cell? ⟨b, off + j, none⟩ = some ((ivs xs).getD j undef)) := hcell
  have HC' : Hid (∀ j, j < ys.length → w.cell? ⟨b', off' + j, none⟩ = some ((ivs ys).getD j undef)) := hcell'
  clear hcell hcell'
  go_enter Try.func20, Try.ntmps20
  by_cases hl : xs.length = ys.length
  · have hl0 : ((xs.length : Int) != (ys.length : Int)) = false := by rw [hl]; simp
    have HL : Hid (xs.length = ys.length) := hl
    clear hl
    go_wp2
    go_loopw [13] (fun i wr => ∃ k : Nat, k ≤ xs.length ∧ i = .int .i64 k ∧ (∀ j, j < k → xs.getD j 0 = ys.getD j 0) ∧ Below w.heap.size w wr) (fun i _ => xs.length - (intOf i).toNat)
    case atStart => exact ⟨0, Nat.zero_le _, rfl, fun j hj => by omega, Below.refl _ _⟩
    case round =>
      obtain ⟨k, hk, rfl, hall, hbel⟩ := hrel
      by_cases hlt : k < xs.length
      · have hlt' : k < ys.length := by have := HL.out; omega
        have g1 : wr.cell? ⟨b, off + k, none⟩ = some (.int .i64 (xs.getD k 0)) := by rw [← ivs_get xs k hlt]; exact cell_later hbel (HC.out k hlt)
        have g2 : wr.cell? ⟨b', off' + k, none⟩ = some (.int .i64 (ys.getD k 0)) := by rw [← ivs_get ys k hlt']; exact cell_later hbel (HC'.out k hlt')
        generalize hx' : xs.getD k 0 = x at g1
        generalize hy' : ys.getD k 0 = y at g2
        have HX : Hid (xs.getD k 0 = x) := hx'
        have HY : Hid (ys.getD k 0 = y) := hy'
        clear hx' hy'
        by_cases hxy : x = y
        · subst hxy
          go_wp2
          go_quiet (fail)
          go_wp2
          go_roundw
          case rel =>
            refine ⟨k + 1, by omega, by go_num, fun j hj => ?_, below_drewN hbel _⟩
            by_cases e : j = k
            · rw [e, HX.out, HY.out]
            · exact hall j (by omega)
          case measure => simp [intOf]; omega
        · have hb : (x != y) = true := by simpa using hxy
          go_wp2
          go_quiet (fail)
          go_wp2
          go_ret
          exact SaysB.mk _ (eq_miss xs ys k (by rw [HX.out, HY.out]; exact hxy)).symm (below_drewN hbel _)
      · have e : k = xs.length := by omega
        go_wp2
        go_ret
        exact SaysB.mk _ (eq_first xs ys HL.out (by rw [← e]; exact hall)).symm hbel
  · have hl0 : ((xs.length : Int) != (ys.length : Int)) = true := by simpa using (by omega : ¬ (xs.length : Int) = ys.length)
    have HL : Hid (¬ xs.length = ys.length) := hl
    clear hl
    go_wp2
    go_ret
    exact SaysB.mk _ (eq_len xs ys HL.out).symm (Below.refl _ _)

set_option maxHeartbeats 400000 in
theorem same11 (a a' : Option Addr) (c c' : Nat) (xs ys : List Int) (w : World) (lo lo' : Nat) (hx : xs.length ≤ 10000000) (hy : ys.length ≤ 10000000) (h1 : Row lo w a (ivs xs)) (h2 : Row lo' w a' (ivs ys)) :
    Calls Try.prog 11 #[.slice a xs.length c, .slice a' ys.length c'] w (SaysB (xs == ys) w) := by
  obtain ⟨b, off, hix, hcell, _⟩ := row_open h1 Try.underlying25 Try.info3
  obtain ⟨b', off', hix', hcell', _⟩ := row_open h2 Try.underlying25 Try.info3
  rw [ivs_len] at hix hix' hcell hcell'
  clear h1 h2
  have HC : Hid (∀ j, j < xs.length → w.cell? ⟨b, off + j, none⟩ = some ((ivs xs).getD j undef)) := hcell
  have HC' : Hid (∀ j, j < ys.length → w.cell? ⟨b', off' + j, none⟩ = some ((ivs ys).getD j undef)) := hcell'
  clear hcell hcell'
  go_enter Try.func11, Try.ntmps11
  by_cases hl : xs.length = ys.length
  · have hl0 : ((xs.length : Int) != (ys.length : Int)) = false := by rw [hl]; simp
    have HL : Hid (xs.length = ys.length) := hl
    clear hl
    go_wp2
    go_loopw [5] (fun i wr => ∃ k : Nat, k ≤ xs.length ∧ i = .int .i64 k ∧ (∀ j, j < k → xs.getD j 0 = ys.getD j 0) ∧ Below w.heap.size w wr) (fun i _ => xs.length - (intOf i).toNat)
    case atStart => exact ⟨0, Nat.zero_le _, rfl, fun j hj => by omega, Below.refl _ _⟩
    case round =>
      obtain ⟨k, hk, rfl, hall, hbel⟩ := hrel
      by_cases hlt : k < xs.length
      · have hlt' : k < ys.length := by have := HL.out; omega
        have g1 : wr.cell? ⟨b, off + k, none⟩ = some (.int .i64 (xs.getD k 0)) := by rw [← ivs_get xs k hlt]; exact cell_later hbel (HC.out k hlt)
        have g2 : wr.cell? ⟨b', off' + k, none⟩ = some (.int .i64 (ys.getD k 0)) := by rw [← ivs_get ys k hlt']; exact cell_later hbel (HC'.out k hlt')
        generalize hx' : xs.getD k 0 = x at g1
        generalize hy' : ys.getD k 0 = y at g2
        have HX : Hid (xs.getD k 0 = x) := hx'
        have HY : Hid (ys.getD k 0 = y) := hy'
        clear hx' hy'
        by_cases hxy : x = y
        · subst hxy
          go_wp2
          go_quiet (fail)
          go_wp2
          go_roundw
          case rel =>
            refine ⟨k + 1, by omega, by go_num, fun j hj => ?_, below_drewN hbel _⟩
            by_cases e : j = k
            · rw [e, HX.out, HY.out]
            · exact hall j (by omega)
          case measure => simp [intOf]; omega
        · have hb : (x != y) = true := by simpa using hxy
          go_wp2
          go_quiet (fail)
          go_wp2
          go_ret
          exact SaysB.mk _ (eq_miss xs ys k (by rw [HX.out, HY.out]; exact hxy)).symm (below_drewN hbel _)
      · have e : k = xs.length := by omega
        go_wp2
        go_ret
        exact SaysB.mk _ (eq_first xs ys HL.out (by rw [← e]; exact hall)).symm hbel
  · have hl0 : ((xs.length : Int) != (ys.length : Int)) = true := by simpa using (by omega : ¬ (xs.length : Int) = ys.length)
    have HL : Hid (¬ xs.length = ys.length) := hl
    clear hl
    go_wp2
    go_ret
    exact SaysB.mk _ (eq_len xs ys HL.out).symm (Below.refl _ _)

theorem equal18 (a a' : Option Addr) (c c' : Nat) (xs ys : List Int) (w : World) (lo lo' : Nat) (hx : xs.length ≤ 10000000) (hy : ys.length ≤ 10000000) (h1 : Row lo w a (ivs xs)) (h2 : Row lo' w a' (ivs ys)) :
    Calls Try.prog 18 #[.slice a xs.length c, .slice a' ys.length c'] w (SaysB (xs == ys) w) := by
  have H := equal20 a a' c c' xs ys w lo lo' hx hy h1 h2
  go_enter Try.func18, Try.ntmps18
  go_wp2_with fail
  refine H.mono ?_
  rintro e w' ⟨rfl, hb⟩
  go_wp2_with fail
  go_ret
  exact ⟨rfl, hb⟩
end Go.Proofs.Qxb6604382a
