import Derived.Test.Qxb6603214aRun
namespace Go.Proofs.Qxb6603214a
open Go.RowKit
set_option linter.unusedVariables false

set_option maxHeartbeats 400000 in
theorem cloneInts_nil (w : World) : Calls Try.prog 12 #[.slice none 0 0] w (Cloned [] w) := by
  have hnil := fun w => Lib.run_eql_slice_nil (P := Try.prog) w 23 3 none 0 0 0 0 Try.underlying23
  go_enter Try.func12, Try.ntmps12
  go_wp2
  go_ret
  exact ⟨_, rfl, .inl ⟨rfl, rfl⟩, Below.refl _ _⟩
theorem cloneInts_any (a : Option Addr) (c : Nat) (zs : List Int) (w : World) (hz : zs.length ≤ 5000) (hc : Ints w a zs) (hn : a = none → zs = [] ∧ c = 0) :
    Calls Try.prog 12 #[.slice a zs.length c] w (Cloned zs w) := by
  cases a with
  | none =>
    obtain ⟨rfl, rfl⟩ := hn rfl
    exact cloneInts_nil w
  | some ad => exact cloneInts_some ad c zs w hz hc

/-- 'It answers a slice of n, in new memory' (of what it holds nothing is said). -/
def SomeSlice (n : Nat) (w : World) (e : Ending) (w' : World) : Prop := ∃ a c, e = .returned (.slice a n c) ∧ Below w.heap.size w w'
theorem SomeSlice.mk {n : Nat} {w w' : World} (a : Option Addr) (c : Nat) (h : Below w.heap.size w w') : SomeSlice n w (.returned (.slice a n c)) w' := ⟨a, c, rfl, h⟩

set_option maxHeartbeats 400000 in
theorem cloneStrings_nil (w : World) : Calls Try.prog 11 #[.slice none 0 0] w (SomeSlice 0 w) := by
  have hnil := fun w => Lib.run_eql_slice_nil (P := Try.prog) w 22 9 none 0 0 0 0 Try.underlying22
  go_enter Try.func11, Try.ntmps11
  go_wp2
  go_ret
  exact SomeSlice.mk _ _ (Below.refl _ _)
/-- Block 'g' is a row of 'n' cells of type 'e'. -/
def RowOf (w : World) (g : Nat) (e : TypeId) (n : Nat) : Prop := ∃ cur, Arr w g e cur ∧ cur.length = n
theorem RowOf.some {w : World} {g n : Nat} {e : TypeId} (h : RowOf w g e n) (j : Nat) (hj : j < n) : ∃ u, w.cell? ⟨g, j, none⟩ = some u := by
  obtain ⟨cur, ha, hl⟩ := h
  exact ⟨cur[j]'(by omega), by rw [ha.cell, List.getElem?_eq_getElem]⟩
theorem RowOf.frozen {w : World} {g n : Nat} {e : TypeId} (h : RowOf w g e n) (j : Nat) : w.frozen? ⟨g, j, none⟩ = false := by
  obtain ⟨cur, ha, hl⟩ := h
  exact ha.frozen j
theorem RowOf.set {w : World} {g n : Nat} {e : TypeId} (h : RowOf w g e n) (j : Nat) (v : Value) : RowOf (w.setCell ⟨g, j, none⟩ v) g e n := by
  obtain ⟨cur, ha, hl⟩ := h
  exact ⟨_, ha.set j v, by simpa using hl⟩

set_option maxHeartbeats 400000 in
theorem cloneStrings_some (ad : Addr) (c : Nat) (zs : List ByteArray) (w : World) (hz : zs.length ≤ 5000) (hc : Strs w (some ad) zs) :
    Calls Try.prog 11 #[.slice (some ad) zs.length c] w (SomeSlice zs.length w) := by
  obtain ⟨b, off, hix, hcell⟩ := strs_open hc
  clear hc
  have hmk := make_strings zs.length (by omega)
  have hnil := fun w => Lib.run_eql_slice_nil (P := Try.prog) w 22 9 (some ad) zs.length c 0 0 Try.underlying22
  have HC : Hid (∀ j, j < zs.length → w.cell? ⟨b, off + j, none⟩ = some (.string (zs.getD j ByteArray.empty))) := hcell
  have hixN : ∀ (k : Nat) (w' : World), k < zs.length → (Instr.indexAt 22 (.slice (some ⟨w.heap.size, 0, none⟩) zs.length zs.length) (.int .i64 k)).run Try.prog w' = .ok (.pointer (some ⟨w.heap.size, k, none⟩)) w' :=
    fun k w' hk => by simpa using indexAt_one Try.underlying22 Try.info9 w.heap.size 0 _ zs.length k hk w'
  clear hcell
  go_enter Try.func11, Try.ntmps11
  go_wp2
  go_loopw [4] (fun i wr => ∃ k : Nat, k ≤ zs.length ∧ i = .int .i64 k ∧ RowOf wr w.heap.size 9 zs.length ∧ Below w.heap.size w wr) (fun i _ => zs.length - (intOf i).toNat)
  case atStart => exact ⟨0, Nat.zero_le _, rfl, ⟨_, Arr.new w _ 9, by simp⟩, (Below.refl _ _).alloc (Nat.le_refl _) _⟩
  case round =>
    obtain ⟨k, hk, rfl, harr, hbel⟩ := hrel
    by_cases hlt : k < zs.length
    · have g1 : wr.cell? ⟨b, off + k, none⟩ = some (.string (zs.getD k ByteArray.empty)) := cell_later hbel (HC.out k hlt)
      obtain ⟨u, g2⟩ := harr.some k hlt
      have g3 := harr.frozen k
      have hset := harr.set k (.string (zs.getD k ByteArray.empty))
      generalize hx : zs.getD k ByteArray.empty = x at *
      clear hx
      go_wp2
      go_roundw
      case rel => exact ⟨k + 1, by omega, by go_num, hset, hbel.setCell (Nat.le_refl _) _⟩
      case measure => simp [intOf]; omega
    · go_wp2
      go_ret
      exact SomeSlice.mk _ _ hbel
theorem cloneStrings_any (a : Option Addr) (c : Nat) (zs : List ByteArray) (w : World) (hz : zs.length ≤ 5000) (hc : Strs w a zs) (hn : a = none → zs = [] ∧ c = 0) :
    Calls Try.prog 11 #[.slice a zs.length c] w (SomeSlice zs.length w) := by
  cases a with
  | none =>
    obtain ⟨rfl, rfl⟩ := hn rfl
    exact cloneStrings_nil w
  | some ad => exact cloneStrings_some ad c zs w hz hc

set_option maxHeartbeats 400000 in
theorem equalInts_same (a a' : Option Addr) (c c' : Nat) (zs : List Int) (w : World) (hz : zs.length ≤ 5000) (h1 : Ints w a zs) (h2 : Ints w a' zs) :
    Calls Try.prog 15 #[.slice a zs.length c, .slice a' zs.length c'] w fun e w' => e = .returned (.bool true) ∧ Below w.heap.size w w' := by
  obtain ⟨b, off, hix, hcell⟩ := ints_open h1
  obtain ⟨b', off', hix', hcell'⟩ := ints_open h2
  clear h1 h2
  have HC : Hid (∀ j, j < zs.length → w.cell? ⟨b, off + j, none⟩ = some (.int .i64 (zs.getD j 0))) := hcell
  have HC' : Hid (∀ j, j < zs.length → w.cell? ⟨b', off' + j, none⟩ = some (.int .i64 (zs.getD j 0))) := hcell'
  clear hcell hcell'
  go_enter Try.func15, Try.ntmps15
  go_wp2
  go_loopw [5] (fun i wr => ∃ k : Nat, k ≤ zs.length ∧ i = .int .i64 k ∧ Below w.heap.size w wr) (fun i _ => zs.length - (intOf i).toNat)
  case atStart => exact ⟨0, Nat.zero_le _, rfl, Below.refl _ _⟩
  case round =>
    obtain ⟨k, hk, rfl, hbel⟩ := hrel
    by_cases hlt : k < zs.length
    · have g1 : wr.cell? ⟨b, off + k, none⟩ = some (.int .i64 (zs.getD k 0)) := cell_later hbel (HC.out k hlt)
      have g2 : wr.cell? ⟨b', off' + k, none⟩ = some (.int .i64 (zs.getD k 0)) := cell_later hbel (HC'.out k hlt)
      generalize hx : zs.getD k 0 = x at *
      clear hx
      go_wp2
      go_quiet (fail)
      go_wp2
      go_roundw
      case rel => exact ⟨k + 1, by omega, by go_num, below_drewN hbel _⟩
      case measure => simp [intOf]; omega
    · go_wp2
      go_ret
      exact ⟨rfl, hbel⟩
end Go.Proofs.Qxb6603214a
