import Derived.Test.Qxb6603214aMem
import Derived.Deep.QuietTactic
import Derived.BigQuiet
namespace Go.Proofs.Qxb6603214a
open Go.RowKit
/-- 'It answers a bool, and the world is as it was.' -/
def AnyBool (w : World) (e : Ending) (w' : World) : Prop := (∃ β, e = .returned (.bool β)) ∧ w' = w
theorem AnyBool.mk (w : World) (β : Bool) : AnyBool w (.returned (.bool β)) w := ⟨⟨β, rfl⟩, rfl⟩

set_option maxHeartbeats 400000 in
theorem bytes7 (a0 a1 a2 a3 a4 : Option Addr) (c0 c1 c2 c3 c4 : Nat) (ss : List ByteArray) (n1 n2 n3 n4 : Nat) (w : World)
    (h0 : ss.length ≤ maxLen) (h1 : n1 ≤ maxLen) (h2 : n2 ≤ maxLen) (h3 : n3 ≤ maxLen) (h4 : n4 ≤ maxLen) (hs : ∀ s ∈ ss, s.size ≤ maxLen) (hst : Strs w a0 ss) :
    Calls Try.prog 7 #[.slice a0 ss.length c0, .slice a1 n1 c1, .slice a2 n2 c2, .slice a3 n3 c3, .slice a4 n4 c4] w (AnyBool w) := by
  obtain ⟨b, off, hix, hcell⟩ := strs_open hst
  clear hst
  have hsz : ∀ j, j < ss.length → (ss.getD j ByteArray.empty).size ≤ maxLen := fun j hj => hs _ (by rw [List.getD_eq_getElem?_getD, List.getElem?_eq_getElem hj]; simp)
  clear hs
  unfold maxLen at *
  go_enter Try.func7, Try.ntmps7
  go_wp2
  all_goals (first | (go_ret; exact AnyBool.mk _ _) | skip)
  go_loop [11, 12] (fun t i => ∃ (k : Nat) (m : Int), k ≤ ss.length ∧ i = .int .i64 k ∧ t = .int .i64 m ∧ 0 ≤ m ∧ m ≤ 1048576) (fun _ i => ss.length - (intOf i).toNat)
  case atStart => exact ⟨0, _, Nat.zero_le _, rfl, rfl, by omega, by omega⟩
  case round =>
    obtain ⟨k, m, hk, rfl, rfl, hm0, hm1⟩ := hrel
    by_cases hlt : k < ss.length
    · obtain ⟨s, hsd⟩ : ∃ s, s = ss.getD k ByteArray.empty := ⟨_, rfl⟩
      have hc1 := hcell k hlt
      have hz1 := hsz k hlt
      rw [← hsd] at hc1 hz1
      clear hsd hcell hsz
      go_wp2
      all_goals first
        | (go_ret; exact AnyBool.mk _ _)
        | (go_round
           case rel => exact ⟨k + 1, _, by omega, by go_num, rfl, by omega, by omega⟩
           case measure => simp [intOf]; omega)
    · clear hcell hsz
      go_wp2
      all_goals (go_ret; exact AnyBool.mk _ _)
set_option maxHeartbeats 400000 in
theorem bytes17 (a0 a1 a2 a3 a4 : Option Addr) (c0 c1 c2 c3 c4 : Nat) (ss : List ByteArray) (n1 n2 n3 n4 : Nat) (w : World)
    (h0 : ss.length ≤ maxLen) (h1 : n1 ≤ maxLen) (h2 : n2 ≤ maxLen) (h3 : n3 ≤ maxLen) (h4 : n4 ≤ maxLen) (hs : ∀ s ∈ ss, s.size ≤ maxLen) (hst : Strs w a0 ss) :
    Calls Try.prog 17 #[.slice a0 ss.length c0, .slice a1 n1 c1, .slice a2 n2 c2, .slice a3 n3 c3, .slice a4 n4 c4] w (AnyBool w) := by
  obtain ⟨b, off, hix, hcell⟩ := strs_open hst
  clear hst
  have hsz : ∀ j, j < ss.length → (ss.getD j ByteArray.empty).size ≤ maxLen := fun j hj => hs _ (by rw [List.getD_eq_getElem?_getD, List.getElem?_eq_getElem hj]; simp)
  clear hs
  unfold maxLen at *
  go_enter Try.func17, Try.ntmps17
  go_wp2
  all_goals (first | (go_ret; exact AnyBool.mk _ _) | skip)
  go_loop [11, 12] (fun t i => ∃ (k : Nat) (m : Int), k ≤ ss.length ∧ i = .int .i64 k ∧ t = .int .i64 m ∧ 0 ≤ m ∧ m ≤ 1048576) (fun _ i => ss.length - (intOf i).toNat)
  case atStart => exact ⟨0, _, Nat.zero_le _, rfl, rfl, by omega, by omega⟩
  case round =>
    obtain ⟨k, m, hk, rfl, rfl, hm0, hm1⟩ := hrel
    by_cases hlt : k < ss.length
    · obtain ⟨s, hsd⟩ : ∃ s, s = ss.getD k ByteArray.empty := ⟨_, rfl⟩
      have hc1 := hcell k hlt
      have hz1 := hsz k hlt
      rw [← hsd] at hc1 hz1
      clear hsd hcell hsz
      go_wp2
      all_goals first
        | (go_ret; exact AnyBool.mk _ _)
        | (go_round
           case rel => exact ⟨k + 1, _, by omega, by go_num, rfl, by omega, by omega⟩
           case measure => simp [intOf]; omega)
    · clear hcell hsz
      go_wp2
      all_goals (go_ret; exact AnyBool.mk _ _)
set_option maxHeartbeats 400000 in
theorem bytes29 (a0 a1 a2 a3 a4 a5 : Option Addr) (c0 c1 c2 c3 c4 c5 : Nat) (ss : List ByteArray) (n1 n2 n3 n4 n5 : Nat) (bu : Int) (w : World)
    (h0 : ss.length ≤ maxLen) (h1 : n1 ≤ maxLen) (h2 : n2 ≤ maxLen) (h3 : n3 ≤ maxLen) (h4 : n4 ≤ maxLen) (h5 : n5 ≤ maxLen) (hs : ∀ s ∈ ss, s.size ≤ maxLen) (hst : Strs w a0 ss) :
    Calls Try.prog 29 #[.slice a0 ss.length c0, .slice a1 n1 c1, .slice a2 n2 c2, .slice a3 n3 c3, .slice a4 n4 c4, .slice a5 n5 c5, .int .i64 bu] w (AnyBool w) := by
  obtain ⟨b, off, hix, hcell⟩ := strs_open hst
  clear hst
  have hsz : ∀ j, j < ss.length → (ss.getD j ByteArray.empty).size ≤ maxLen := fun j hj => hs _ (by rw [List.getD_eq_getElem?_getD, List.getElem?_eq_getElem hj]; simp)
  clear hs
  unfold maxLen at *
  go_enter Try.func29, Try.ntmps29
  go_wp2
  all_goals (first | (go_ret; exact AnyBool.mk _ _) | skip)
  go_loop [15, 16] (fun t i => ∃ (k : Nat) (m : Int), k ≤ ss.length ∧ i = .int .i64 k ∧ t = .int .i64 m ∧ 0 ≤ m ∧ m ≤ 1048576) (fun _ i => ss.length - (intOf i).toNat)
  case atStart => exact ⟨0, _, Nat.zero_le _, rfl, rfl, by omega, by omega⟩
  case round =>
    obtain ⟨k, m, hk, rfl, rfl, hm0, hm1⟩ := hrel
    by_cases hlt : k < ss.length
    · obtain ⟨s, hsd⟩ : ∃ s, s = ss.getD k ByteArray.empty := ⟨_, rfl⟩
      have hc1 := hcell k hlt
      have hz1 := hsz k hlt
      rw [← hsd] at hc1 hz1
      clear hsd hcell hsz
      go_wp2
      all_goals first
        | (go_ret; exact AnyBool.mk _ _)
        | (go_round
           case rel => exact ⟨k + 1, _, by omega, by go_num, rfl, by omega, by omega⟩
           case measure => simp [intOf]; omega)
    · clear hcell hsz
      go_wp2
      all_goals (go_ret; exact AnyBool.mk _ _)
set_option maxHeartbeats 400000 in
theorem bytes36 (a0 a1 a2 a3 a4 a5 : Option Addr) (c0 c1 c2 c3 c4 c5 : Nat) (ss : List ByteArray) (n1 n2 n3 n4 n5 : Nat) (bu : Int) (w : World)
    (h0 : ss.length ≤ maxLen) (h1 : n1 ≤ maxLen) (h2 : n2 ≤ maxLen) (h3 : n3 ≤ maxLen) (h4 : n4 ≤ maxLen) (h5 : n5 ≤ maxLen) (hs : ∀ s ∈ ss, s.size ≤ maxLen) (hst : Strs w a0 ss) :
    Calls Try.prog 36 #[.slice a0 ss.length c0, .slice a1 n1 c1, .slice a2 n2 c2, .slice a3 n3 c3, .slice a4 n4 c4, .slice a5 n5 c5, .int .i64 bu] w (AnyBool w) := by
  obtain ⟨b, off, hix, hcell⟩ := strs_open hst
  clear hst
  have hsz : ∀ j, j < ss.length → (ss.getD j ByteArray.empty).size ≤ maxLen := fun j hj => hs _ (by rw [List.getD_eq_getElem?_getD, List.getElem?_eq_getElem hj]; simp)
  clear hs
  unfold maxLen at *
  go_enter Try.func36, Try.ntmps36
  go_wp2
  all_goals (first | (go_ret; exact AnyBool.mk _ _) | skip)
  go_loop [15, 16] (fun t i => ∃ (k : Nat) (m : Int), k ≤ ss.length ∧ i = .int .i64 k ∧ t = .int .i64 m ∧ 0 ≤ m ∧ m ≤ 1048576) (fun _ i => ss.length - (intOf i).toNat)
  case atStart => exact ⟨0, _, Nat.zero_le _, rfl, rfl, by omega, by omega⟩
  case round =>
    obtain ⟨k, m, hk, rfl, rfl, hm0, hm1⟩ := hrel
    by_cases hlt : k < ss.length
    · obtain ⟨s, hsd⟩ : ∃ s, s = ss.getD k ByteArray.empty := ⟨_, rfl⟩
      have hc1 := hcell k hlt
      have hz1 := hsz k hlt
      rw [← hsd] at hc1 hz1
      clear hsd hcell hsz
      go_wp2
      all_goals first
        | (go_ret; exact AnyBool.mk _ _)
        | (go_round
           case rel => exact ⟨k + 1, _, by omega, by go_num, rfl, by omega, by omega⟩
           case measure => simp [intOf]; omega)
    · clear hcell hsz
      go_wp2
      all_goals (go_ret; exact AnyBool.mk _ _)
set_option maxHeartbeats 400000 in
theorem bytesOK_any (a0 a1 a2 a3 a4 a5 : Option Addr) (c0 c1 c2 c3 c4 c5 : Nat) (ss : List ByteArray) (n1 n2 n3 n4 n5 : Nat) (w : World)
    (h0 : ss.length ≤ 5000) (h1 : n1 ≤ 5000) (h2 : n2 ≤ 5000) (h3 : n3 ≤ 5000) (h4 : n4 ≤ 5000) (h5 : n5 ≤ 5000) (hs : ∀ s ∈ ss, s.size ≤ maxLen) (hst : Strs w a0 ss) :
    Calls Try.prog 8 #[.slice a0 ss.length c0, .slice a1 n1 c1, .slice a2 n2 c2, .slice a3 n3 c3, .slice a4 n4 c4, .slice a5 n5 c5] w (AnyBool w) := by
  obtain ⟨b, off, hix, hcell⟩ := strs_open hst
  clear hst
  have hsz : ∀ j, j < ss.length → (ss.getD j ByteArray.empty).size ≤ maxLen := fun j hj => hs _ (by rw [List.getD_eq_getElem?_getD, List.getElem?_eq_getElem hj]; simp)
  clear hs
  unfold maxLen at *
  go_enter Try.func8, Try.ntmps8
  go_wp2
  all_goals (first | (go_ret; exact AnyBool.mk _ _) | skip)
  go_loop [13, 14] (fun t i => ∃ (k : Nat) (m : Int), k ≤ ss.length ∧ i = .int .i64 k ∧ t = .int .i64 m ∧ 0 ≤ m ∧ m ≤ 1048576) (fun _ i => ss.length - (intOf i).toNat)
  case atStart => exact ⟨0, _, Nat.zero_le _, rfl, rfl, by omega, by omega⟩
  case round =>
    obtain ⟨k, m, hk, rfl, rfl, hm0, hm1⟩ := hrel
    by_cases hlt : k < ss.length
    · obtain ⟨s, hsd⟩ : ∃ s, s = ss.getD k ByteArray.empty := ⟨_, rfl⟩
      have hc1 := hcell k hlt
      have hz1 := hsz k hlt
      rw [← hsd] at hc1 hz1
      clear hsd hcell hsz
      go_wp2
      all_goals first
        | (go_ret; exact AnyBool.mk _ _)
        | (go_round
           case rel => exact ⟨k + 1, _, by omega, by go_num, rfl, by omega, by omega⟩
           case measure => simp [intOf]; omega)
    · clear hcell hsz
      go_wp2
      all_goals (go_ret; exact AnyBool.mk _ _)
end Go.Proofs.Qxb6603214a
