import Derived.Test.Qxb6604382aEq
namespace Go.Proofs.Qxb6604382a
open Go.RowKit
set_option linter.unusedVariables false

/-- A slice of the call's own: nil, or a row of its own that it fills whole. -/
def OwnRow (lo : Nat) (e : TypeId) (w : World) (v : Value) (vs : List Value) : Prop := (v = .slice none 0 0 ∧ vs = []) ∨ ∃ g, v = .slice (some ⟨g, 0, none⟩) vs.length vs.length ∧ Arr w g e vs ∧ lo ≤ g
theorem OwnRow.is {lo : Nat} {e : TypeId} {w : World} {v : Value} {vs : List Value} (h : OwnRow lo e w v vs) : IsRow lo w v vs := by
  rcases h with ⟨rfl, rfl⟩ | ⟨g, rfl, hg, hl⟩
  · exact IsRow.nil _ _
  · exact ⟨_, _, rfl, fun h => (by cases h), hg.row.mono hl⟩
/-- 'It answers a slice that holds vs, in new memory.' -/
def Cloned (e : TypeId) (vs : List Value) (w : World) (en : Ending) (w' : World) : Prop := ∃ v, en = .returned v ∧ OwnRow w.heap.size e w' v vs ∧ Below w.heap.size w w'

theorem take_set_succ (vs : List Value) (k n : Nat) (z : Value) (h : k < vs.length) (hn : n = vs.length) : (vs.take k ++ List.replicate (n - k) z).set k (vs.getD k undef) = vs.take (k + 1) ++ List.replicate (n - (k + 1)) z := by
  subst hn
  apply List.ext_getElem?
  intro i
  simp only [List.getElem?_set, List.getElem?_append, List.length_take, List.getElem?_take, List.getElem?_replicate, List.length_append, List.length_replicate]
  by_cases h1 : k = i
  · subst h1
    rw [if_pos (by omega), if_pos (by omega), if_pos (by omega)]
    simp [h]
  · by_cases h2 : i < k
    · simp [h1, h2, show i < min k vs.length by omega, show i < min (k + 1) vs.length by omega, show i < k + 1 by omega]
    · simp [h1, show ¬ i < min k vs.length by omega, show ¬ i < min (k + 1) vs.length by omega]
      congr 1
      simp
      omega
theorem Arr.some {w : World} {g : Nat} {e : TypeId} {xs : List Value} (h : Arr w g e xs) (j : Nat) (hj : j < xs.length) : ∃ u, w.cell? ⟨g, j, none⟩ = some u :=
  ⟨xs[j], by rw [h.cell, List.getElem?_eq_getElem]⟩

set_option maxHeartbeats 400000 in
theorem clone10_some (ad : Addr) (c : Nat) (vs : List Value) (w : World) (lo : Nat) (hz : vs.length ≤ 10000000) (hsh : ∀ j, j < vs.length → ∃ x, vs.getD j undef = Value.int .i64 x) (h1 : Row lo w (some ad) vs) :
    Calls Try.prog 10 #[.slice (some ad) vs.length c] w (Cloned 3 vs w) := by
  obtain ⟨b, off, hix, hcell, _⟩ := row_open h1 Try.underlying25 Try.info3
  clear h1
  have hmk : ∀ w, (Instr.makeSlice 25 (.int .i64 vs.length) (.int .i64 vs.length)).run Try.prog w = .ok (.slice (some ⟨w.heap.size, 0, none⟩) vs.length vs.length) (w.alloc (.cells (Array.replicate vs.length (.int .i64 0)) 3)) :=
    fun w => make_one Try.underlying25 Try.info3 rfl vs.length (by omega) (by omega) w
  have hnil := fun w => Lib.run_eql_slice_nil (P := Try.prog) w 25 3 (some ad) vs.length c 0 0 Try.underlying25
  have HC : Hid (∀ j, j < vs.length → w.cell? ⟨b, off + j, none⟩ = some (vs.getD j undef)) := hcell
  have hixN : ∀ (k : Nat) (w' : World), k < vs.length → (Instr.indexAt 25 (.slice (some ⟨w.heap.size, 0, none⟩) vs.length vs.length) (.int .i64 k)).run Try.prog w' = .ok (.pointer (some ⟨w.heap.size, k, none⟩)) w' :=
    fun k w' hk => by simpa using indexAt_one Try.underlying25 Try.info3 w.heap.size 0 _ vs.length k hk w'
  clear hcell
  go_enter Try.func10, Try.ntmps10
  go_wp2
  go_loopw [4] (fun i wr => ∃ k : Nat, k ≤ vs.length ∧ i = .int .i64 k ∧ Arr wr w.heap.size 3 (vs.take k ++ List.replicate (vs.length - k) (.int .i64 0)) ∧ Below w.heap.size w wr) (fun i _ => vs.length - (intOf i).toNat)
  case atStart => exact ⟨0, Nat.zero_le _, rfl, by simpa using Arr.new w (Array.replicate vs.length (.int .i64 0)) 3, (Below.refl _ _).alloc (Nat.le_refl _) _⟩
  case round =>
    obtain ⟨k, hk, rfl, harr, hbel⟩ := hrel
    by_cases hlt : k < vs.length
    · have g1 : wr.cell? ⟨b, off + k, none⟩ = some (vs.getD k undef) := cell_later hbel (HC.out k hlt)
      obtain ⟨u, g2⟩ := harr.some k (by simp; omega)
      have g3 := harr.frozen k
      have hset := harr.set k (vs.getD k undef)
      rw [take_set_succ vs k _ _ hlt rfl] at hset
      obtain ⟨x, hx⟩ := hsh k hlt
      rw [hx] at g1 hset
      clear hx
      go_wp2
      go_roundw
      case rel => exact ⟨k + 1, by omega, by go_num, hset, hbel.setCell (Nat.le_refl _) _⟩
      case measure => simp [intOf]; omega
    · have e : k = vs.length := by omega
      go_wp2
      go_ret
      refine ⟨_, rfl, .inr ⟨w.heap.size, rfl, ?_, Nat.le_refl _⟩, hbel⟩
      have := harr
      rw [e] at this
      simpa using this
set_option maxHeartbeats 400000 in
theorem clone10_nil (w : World) : Calls Try.prog 10 #[.slice none 0 0] w (Cloned 3 [] w) := by
  have hnil := fun w => Lib.run_eql_slice_nil (P := Try.prog) w 25 3 none 0 0 0 0 Try.underlying25
  go_enter Try.func10, Try.ntmps10
  go_wp2
  go_ret
  exact ⟨_, rfl, .inl ⟨rfl, rfl⟩, Below.refl _ _⟩
theorem clone10_any (v : Value) (vs : List Value) (w : World) (lo : Nat) (hz : vs.length ≤ 10000000) (hsh : ∀ j, j < vs.length → ∃ x, vs.getD j undef = Value.int .i64 x) (hc : IsRow lo w v vs) :
    Calls Try.prog 10 #[v] w (Cloned 3 vs w) := by
  obtain ⟨a, c, rfl, hn, hr⟩ := hc
  cases a with
  | none =>
    obtain ⟨rfl, rfl⟩ := hn rfl
    exact clone10_nil w
  | some ad => exact clone10_some ad c vs w lo hz hsh hr

set_option maxHeartbeats 400000 in
theorem clone14_some (ad : Addr) (c : Nat) (vs : List Value) (w : World) (lo : Nat) (hz : vs.length ≤ 10000000) (hsh : ∀ j, j < vs.length → ∃ x, vs.getD j undef = Value.int .u8 x) (h1 : Row lo w (some ad) vs) :
    Calls Try.prog 14 #[.slice (some ad) vs.length c] w (Cloned 5 vs w) := by
  obtain ⟨b, off, hix, hcell, _⟩ := row_open h1 Try.underlying33 Try.info5
  clear h1
  have hmk : ∀ w, (Instr.makeSlice 33 (.int .i64 vs.length) (.int .i64 vs.length)).run Try.prog w = .ok (.slice (some ⟨w.heap.size, 0, none⟩) vs.length vs.length) (w.alloc (.cells (Array.replicate vs.length (.int .u8 0)) 5)) :=
    fun w => make_one Try.underlying33 Try.info5 rfl vs.length (by omega) (by omega) w
  have hnil := fun w => Lib.run_eql_slice_nil (P := Try.prog) w 33 5 (some ad) vs.length c 0 0 Try.underlying33
  have HC : Hid (∀ j, j < vs.length → w.cell? ⟨b, off + j, none⟩ = some (vs.getD j undef)) := hcell
  have hixN : ∀ (k : Nat) (w' : World), k < vs.length → (Instr.indexAt 33 (.slice (some ⟨w.heap.size, 0, none⟩) vs.length vs.length) (.int .i64 k)).run Try.prog w' = .ok (.pointer (some ⟨w.heap.size, k, none⟩)) w' :=
    fun k w' hk => by simpa using indexAt_one Try.underlying33 Try.info5 w.heap.size 0 _ vs.length k hk w'
  clear hcell
  go_enter Try.func14, Try.ntmps14
  go_wp2
  go_loopw [4] (fun i wr => ∃ k : Nat, k ≤ vs.length ∧ i = .int .i64 k ∧ Arr wr w.heap.size 5 (vs.take k ++ List.replicate (vs.length - k) (.int .u8 0)) ∧ Below w.heap.size w wr) (fun i _ => vs.length - (intOf i).toNat)
  case atStart => exact ⟨0, Nat.zero_le _, rfl, by simpa using Arr.new w (Array.replicate vs.length (.int .u8 0)) 5, (Below.refl _ _).alloc (Nat.le_refl _) _⟩
  case round =>
    obtain ⟨k, hk, rfl, harr, hbel⟩ := hrel
    by_cases hlt : k < vs.length
    · have g1 : wr.cell? ⟨b, off + k, none⟩ = some (vs.getD k undef) := cell_later hbel (HC.out k hlt)
      obtain ⟨u, g2⟩ := harr.some k (by simp; omega)
      have g3 := harr.frozen k
      have hset := harr.set k (vs.getD k undef)
      rw [take_set_succ vs k _ _ hlt rfl] at hset
      obtain ⟨x, hx⟩ := hsh k hlt
      rw [hx] at g1 hset
      clear hx
      go_wp2
      go_roundw
      case rel => exact ⟨k + 1, by omega, by go_num, hset, hbel.setCell (Nat.le_refl _) _⟩
      case measure => simp [intOf]; omega
    · have e : k = vs.length := by omega
      go_wp2
      go_ret
      refine ⟨_, rfl, .inr ⟨w.heap.size, rfl, ?_, Nat.le_refl _⟩, hbel⟩
      have := harr
      rw [e] at this
      simpa using this
set_option maxHeartbeats 400000 in
theorem clone14_nil (w : World) : Calls Try.prog 14 #[.slice none 0 0] w (Cloned 5 [] w) := by
  have hnil := fun w => Lib.run_eql_slice_nil (P := Try.prog) w 33 5 none 0 0 0 0 Try.underlying33
  go_enter Try.func14, Try.ntmps14
  go_wp2
  go_ret
  exact ⟨_, rfl, .inl ⟨rfl, rfl⟩, Below.refl _ _⟩
theorem clone14_any (v : Value) (vs : List Value) (w : World) (lo : Nat) (hz : vs.length ≤ 10000000) (hsh : ∀ j, j < vs.length → ∃ x, vs.getD j undef = Value.int .u8 x) (hc : IsRow lo w v vs) :
    Calls Try.prog 14 #[v] w (Cloned 5 vs w) := by
  obtain ⟨a, c, rfl, hn, hr⟩ := hc
  cases a with
  | none =>
    obtain ⟨rfl, rfl⟩ := hn rfl
    exact clone14_nil w
  | some ad => exact clone14_some ad c vs w lo hz hsh hr

set_option maxHeartbeats 400000 in
theorem clone8_some (ad : Addr) (c : Nat) (vs : List Value) (w : World) (lo : Nat) (hz : vs.length ≤ 10000000) (hsh : ∀ j, j < vs.length → ∃ x, vs.getD j undef = Value.bool x) (h1 : Row lo w (some ad) vs) :
    Calls Try.prog 8 #[.slice (some ad) vs.length c] w (Cloned 4 vs w) := by
  obtain ⟨b, off, hix, hcell, _⟩ := row_open h1 Try.underlying23 Try.info4
  clear h1
  have hmk : ∀ w, (Instr.makeSlice 23 (.int .i64 vs.length) (.int .i64 vs.length)).run Try.prog w = .ok (.slice (some ⟨w.heap.size, 0, none⟩) vs.length vs.length) (w.alloc (.cells (Array.replicate vs.length (.bool false)) 4)) :=
    fun w => make_one Try.underlying23 Try.info4 rfl vs.length (by omega) (by omega) w
  have hnil := fun w => Lib.run_eql_slice_nil (P := Try.prog) w 23 4 (some ad) vs.length c 0 0 Try.underlying23
  have HC : Hid (∀ j, j < vs.length → w.cell? ⟨b, off + j, none⟩ = some (vs.getD j undef)) := hcell
  have hixN : ∀ (k : Nat) (w' : World), k < vs.length → (Instr.indexAt 23 (.slice (some ⟨w.heap.size, 0, none⟩) vs.length vs.length) (.int .i64 k)).run Try.prog w' = .ok (.pointer (some ⟨w.heap.size, k, none⟩)) w' :=
    fun k w' hk => by simpa using indexAt_one Try.underlying23 Try.info4 w.heap.size 0 _ vs.length k hk w'
  clear hcell
  go_enter Try.func8, Try.ntmps8
  go_wp2
  go_loopw [4] (fun i wr => ∃ k : Nat, k ≤ vs.length ∧ i = .int .i64 k ∧ Arr wr w.heap.size 4 (vs.take k ++ List.replicate (vs.length - k) (.bool false)) ∧ Below w.heap.size w wr) (fun i _ => vs.length - (intOf i).toNat)
  case atStart => exact ⟨0, Nat.zero_le _, rfl, by simpa using Arr.new w (Array.replicate vs.length (.bool false)) 4, (Below.refl _ _).alloc (Nat.le_refl _) _⟩
  case round =>
    obtain ⟨k, hk, rfl, harr, hbel⟩ := hrel
    by_cases hlt : k < vs.length
    · have g1 : wr.cell? ⟨b, off + k, none⟩ = some (vs.getD k undef) := cell_later hbel (HC.out k hlt)
      obtain ⟨u, g2⟩ := harr.some k (by simp; omega)
      have g3 := harr.frozen k
      have hset := harr.set k (vs.getD k undef)
      rw [take_set_succ vs k _ _ hlt rfl] at hset
      obtain ⟨x, hx⟩ := hsh k hlt
      rw [hx] at g1 hset
      clear hx
      go_wp2
      go_roundw
      case rel => exact ⟨k + 1, by omega, by go_num, hset, hbel.setCell (Nat.le_refl _) _⟩
      case measure => simp [intOf]; omega
    · have e : k = vs.length := by omega
      go_wp2
      go_ret
      refine ⟨_, rfl, .inr ⟨w.heap.size, rfl, ?_, Nat.le_refl _⟩, hbel⟩
      have := harr
      rw [e] at this
      simpa using this
set_option maxHeartbeats 400000 in
theorem clone8_nil (w : World) : Calls Try.prog 8 #[.slice none 0 0] w (Cloned 4 [] w) := by
  have hnil := fun w => Lib.run_eql_slice_nil (P := Try.prog) w 23 4 none 0 0 0 0 Try.underlying23
  go_enter Try.func8, Try.ntmps8
  go_wp2
  go_ret
  exact ⟨_, rfl, .inl ⟨rfl, rfl⟩, Below.refl _ _⟩
theorem clone8_any (v : Value) (vs : List Value) (w : World) (lo : Nat) (hz : vs.length ≤ 10000000) (hsh : ∀ j, j < vs.length → ∃ x, vs.getD j undef = Value.bool x) (hc : IsRow lo w v vs) :
    Calls Try.prog 8 #[v] w (Cloned 4 vs w) := by
  obtain ⟨a, c, rfl, hn, hr⟩ := hc
  cases a with
  | none =>
    obtain ⟨rfl, rfl⟩ := hn rfl
    exact clone8_nil w
  | some ad => exact clone8_some ad c vs w lo hz hsh hr
end Go.Proofs.Qxb6604382a
