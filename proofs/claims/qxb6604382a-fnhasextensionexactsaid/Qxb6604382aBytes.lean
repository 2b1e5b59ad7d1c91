import Derived.Test.Qxb6604382aEq
namespace Go.Proofs.Qxb6604382a
open Go.RowKit
set_option linter.unusedVariables false

/-- 'It answers a bool; where that is true, P; the world is as it was.' -/
def SaysIf (P : Prop) (w : World) (e : Ending) (w' : World) : Prop := ∃ β, e = .returned (.bool β) ∧ (β = true → P) ∧ w' = w
theorem SaysIf.no {P : Prop} (w : World) : SaysIf P w (.returned (.bool false)) w := ⟨false, rfl, fun h => by simp at h, rfl⟩
theorem SaysIf.yes {P : Prop} {w : World} (p : P) : SaysIf P w (.returned (.bool true)) w := ⟨true, rfl, fun _ => p, rfl⟩

/-- A slice of slices: the lengths of its elements. -/
def Lens (us : List Value) (L : Nat → Nat) : Prop := ∀ j, j < us.length → L j ≤ maxLen ∧ ∃ a c, us.getD j undef = .slice a (L j) c

set_option maxHeartbeats 400000 in
theorem bytes13 (a0 a1 : Option Addr) (c0 c1 n1 : Nat) (us : List Value) (L : Nat → Nat) (k x : Int) (w : World) (lo : Nat)
    (h0 : us.length ≤ maxLen) (h1 : n1 ≤ maxLen) (hr : Row lo w a0 us) (hl : Lens us L) :
    Calls Try.prog 13 #[.slice a0 us.length c0, .slice a1 n1 c1, .int .i64 k, .int .i64 x] w (SaysIf True w) := by
  obtain ⟨b, off, hix, hcell, _⟩ := row_open hr Try.underlying22 Try.info25
  clear hr
  have HC : Hid (∀ j, j < us.length → w.cell? ⟨b, off + j, none⟩ = some (us.getD j undef)) := hcell
  have HL : Hid (Lens us L) := hl
  clear hl hcell
  unfold maxLen at *
  go_enter Try.func13, Try.ntmps13
  go_wp2
  all_goals (first | (go_ret; exact SaysIf.no _) | (go_ret; exact SaysIf.yes trivial) | skip)
  go_loop [9, 10] (fun t i => ∃ (k : Nat) (m : Int), k ≤ us.length ∧ i = .int .i64 k ∧ t = .int .i64 m ∧ 0 ≤ m ∧ m ≤ 1048576) (fun _ i => us.length - (intOf i).toNat)
  case atStart => exact ⟨0, _, Nat.zero_le _, rfl, rfl, by omega, by omega⟩
  case round =>
    obtain ⟨k, m, hk, rfl, rfl, hm0, hm1⟩ := hrel
    by_cases hlt : k < us.length
    · obtain ⟨hz1, aa, cc, hv⟩ := HL.out k hlt
      have hc1 := HC.out k hlt
      rw [hv] at hc1
      clear hv
      generalize L k = l at *
      unfold maxLen at hz1
      go_wp2
      all_goals first
        | (go_ret; exact SaysIf.no _)
        | (go_round
           case rel => exact ⟨k + 1, _, by omega, by go_num, rfl, by omega, by omega⟩
           case measure => simp [intOf]; omega)
    · go_wp2
      all_goals first
        | (go_ret; exact SaysIf.no _)
        | (go_ret; exact SaysIf.yes trivial)

set_option maxHeartbeats 800000 in
theorem bytes5 (a0 a1 a2 a3 : Option Addr) (c0 c1 c2 c3 n1 n3 : Nat) (us vs : List Value) (L M : Nat → Nat) (w : World) (lo : Nat)
    (h0 : us.length ≤ maxLen) (h1 : n1 ≤ maxLen) (h2 : vs.length ≤ maxLen) (h3 : n3 ≤ maxLen) (hr : Row lo w a0 us) (hl : Lens us L) (hr2 : Row lo w a2 vs) (hl2 : Lens vs M) :
    Calls Try.prog 5 #[.slice a0 us.length c0, .slice a1 n1 c1, .slice a2 vs.length c2, .slice a3 n3 c3] w (SaysIf True w) := by
  obtain ⟨b, off, hix, hcell, _⟩ := row_open hr Try.underlying22 Try.info25
  obtain ⟨b2, off2, hix2, hcell2, _⟩ := row_open hr2 Try.underlying24 Try.info33
  clear hr hr2
  have HC : Hid (∀ j, j < us.length → w.cell? ⟨b, off + j, none⟩ = some (us.getD j undef)) := hcell
  have HL : Hid (Lens us L) := hl
  have HC2 : Hid (∀ j, j < vs.length → w.cell? ⟨b2, off2 + j, none⟩ = some (vs.getD j undef)) := hcell2
  have HL2 : Hid (Lens vs M) := hl2
  clear hl hcell hl2 hcell2
  unfold maxLen at *
  go_enter Try.func5, Try.ntmps5
  go_wp2
  all_goals (first | (go_ret; exact SaysIf.no _) | skip)
  go_loop [9, 10] (fun t i => ∃ (k : Nat) (m : Int), k ≤ us.length ∧ i = .int .i64 k ∧ t = .int .i64 m ∧ 0 ≤ m ∧ m ≤ 1048576) (fun _ i => us.length - (intOf i).toNat)
  case atStart => exact ⟨0, _, Nat.zero_le _, rfl, rfl, by omega, by omega⟩
  case round =>
    obtain ⟨k, m, hk, rfl, rfl, hm0, hm1⟩ := hrel
    by_cases hlt : k < us.length
    · obtain ⟨hz1, aa, cc, hv⟩ := HL.out k hlt
      have hc1 := HC.out k hlt
      rw [hv] at hc1
      clear hv
      generalize L k = l at *
      unfold maxLen at hz1
      go_wp2
      all_goals first
        | (go_ret; exact SaysIf.no _)
        | (go_round
           case rel => exact ⟨k + 1, _, by omega, by go_num, rfl, by omega, by omega⟩
           case measure => simp [intOf]; omega)
    · go_wp2
      all_goals (first | (go_ret; exact SaysIf.no _) | skip)
      go_loop [9, 11] (fun t i => ∃ (k : Nat) (m : Int), k ≤ vs.length ∧ i = .int .i64 k ∧ t = .int .i64 m ∧ 0 ≤ m ∧ m ≤ 1048576) (fun _ i => vs.length - (intOf i).toNat)
      case atStart => exact ⟨0, _, Nat.zero_le _, rfl, rfl, by omega, by omega⟩
      case round =>
        obtain ⟨k, m, hk, rfl, rfl, hm0, hm1⟩ := hrel
        by_cases hlt : k < vs.length
        · obtain ⟨hz1, aa, cc, hv⟩ := HL2.out k hlt
          have hc1 := HC2.out k hlt
          rw [hv] at hc1
          clear hv
          generalize M k = l at *
          unfold maxLen at hz1
          go_wp2
          all_goals first
            | (go_ret; exact SaysIf.no _)
            | (go_round
               case rel => exact ⟨k + 1, _, by omega, by go_num, rfl, by omega, by omega⟩
               case measure => simp [intOf]; omega)
        · go_wp2
          all_goals first
            | (go_ret; exact SaysIf.no _)
            | (go_ret; exact SaysIf.yes trivial)

/-- The lengths are small. -/
structure Fits (us vs : List Value) (n1 n3 : Nat) (L M : Nat → Nat) : Prop where
  l0 : us.length ≤ 1048576
  l1 : n1 ≤ 1048576
  l2 : vs.length ≤ 1048576
  l3 : n3 ≤ 1048576
  e0 : ∀ j, j < us.length → L j ≤ 1048576
  e2 : ∀ j, j < vs.length → M j ≤ 1048576

set_option maxHeartbeats 800000 in
theorem within6 (a0 a1 a2 a3 : Option Addr) (c0 c1 c2 c3 n1 n3 : Nat) (us vs : List Value) (L M : Nat → Nat) (w : World) (lo : Nat)
    (h0 : us.length ≤ maxLen) (h1 : n1 ≤ maxLen) (h2 : vs.length ≤ maxLen) (h3 : n3 ≤ maxLen) (hr : Row lo w a0 us) (hl : Lens us L) (hr2 : Row lo w a2 vs) (hl2 : Lens vs M) :
    Calls Try.prog 6 #[.slice a0 us.length c0, .slice a1 n1 c1, .slice a2 vs.length c2, .slice a3 n3 c3] w (SaysIf (Fits us vs n1 n3 L M) w) := by
  obtain ⟨b, off, hix, hcell, _⟩ := row_open hr Try.underlying22 Try.info25
  obtain ⟨b2, off2, hix2, hcell2, _⟩ := row_open hr2 Try.underlying24 Try.info33
  clear hr hr2
  have HC : Hid (∀ j, j < us.length → w.cell? ⟨b, off + j, none⟩ = some (us.getD j undef)) := hcell
  have HL : Hid (Lens us L) := hl
  have HC2 : Hid (∀ j, j < vs.length → w.cell? ⟨b2, off2 + j, none⟩ = some (vs.getD j undef)) := hcell2
  have HL2 : Hid (Lens vs M) := hl2
  clear hl hcell hl2 hcell2
  unfold maxLen at *
  go_enter Try.func6, Try.ntmps6
  by_cases q0 : 1048576 < us.length
  · go_wp2
    go_ret
    exact SaysIf.no _
  by_cases q1 : 1048576 < n1
  · go_wp2
    go_ret
    exact SaysIf.no _
  by_cases q2 : 1048576 < vs.length
  · go_wp2
    go_ret
    exact SaysIf.no _
  by_cases q3 : 1048576 < n3
  · go_wp2
    go_ret
    exact SaysIf.no _
  by_cases q4 : 1048576 < 8 * (us.length : Int) + n1 + 8 * vs.length + 8 * n3
  · go_wp2
    go_ret
    exact SaysIf.no _
  go_wp2
  go_loop [9, 10] (fun t i => ∃ (k : Nat) (m : Int), k ≤ us.length ∧ i = .int .i64 k ∧ t = .int .i64 m ∧ 0 ≤ m ∧ m ≤ 1048576 ∧ ∀ j, j < k → L j ≤ 1048576) (fun _ i => us.length - (intOf i).toNat)
  case atStart => exact ⟨0, _, Nat.zero_le _, rfl, rfl, by omega, by omega, fun j hj => by omega⟩
  case round =>
    obtain ⟨k, m, hk, rfl, rfl, hm0, hm1, hall⟩ := hrel
    by_cases hlt : k < us.length
    · obtain ⟨hz1, aa, cc, hv⟩ := HL.out k hlt
      have hc1 := HC.out k hlt
      rw [hv] at hc1
      clear hv
      generalize hl' : L k = l at hz1 hc1
      have HLk : Hid (L k = l) := hl'
      clear hl'
      unfold maxLen at hz1
      go_wp2
      all_goals first
        | (go_ret; exact SaysIf.no _)
        | (go_round
           case rel =>
             refine ⟨k + 1, _, by omega, by go_num, rfl, by omega, by omega, fun j hj => ?_⟩
             by_cases e : j = k
             · rw [e, HLk.out]; omega
             · exact hall j (by omega)
           case measure => simp [intOf]; omega)
    · have e : k = us.length := by omega
      subst e
      have HA : Hid (∀ j, j < us.length → L j ≤ 1048576) := hall
      clear hall
      go_wp2
      all_goals (first | (go_ret; exact SaysIf.no _) | skip)
      go_loop [9, 11] (fun t i => ∃ (k : Nat) (m : Int), k ≤ vs.length ∧ i = .int .i64 k ∧ t = .int .i64 m ∧ 0 ≤ m ∧ m ≤ 1048576 ∧ ∀ j, j < k → M j ≤ 1048576) (fun _ i => vs.length - (intOf i).toNat)
      case atStart => exact ⟨0, _, Nat.zero_le _, rfl, rfl, by omega, by omega, fun j hj => by omega⟩
      case round =>
        obtain ⟨k, m, hk, rfl, rfl, hm0, hm1, hall⟩ := hrel
        by_cases hlt : k < vs.length
        · obtain ⟨hz1, aa, cc, hv⟩ := HL2.out k hlt
          have hc1 := HC2.out k hlt
          rw [hv] at hc1
          clear hv
          generalize hl' : M k = l at hz1 hc1
          have HLk : Hid (M k = l) := hl'
          clear hl'
          unfold maxLen at hz1
          go_wp2
          all_goals first
            | (go_ret; exact SaysIf.no _)
            | (go_round
               case rel =>
                 refine ⟨k + 1, _, by omega, by go_num, rfl, by omega, by omega, fun j hj => ?_⟩
                 by_cases e : j = k
                 · rw [e, HLk.out]; omega
                 · exact hall j (by omega)
               case measure => simp [intOf]; omega)
        · have e : k = vs.length := by omega
          subst e
          go_wp2
          go_ret
          exact SaysIf.yes ⟨by omega, by omega, by omega, by omega, HA.out, hall⟩
end Go.Proofs.Qxb6604382a
