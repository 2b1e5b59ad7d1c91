import Derived.Test.Qxb6604382aClone
namespace Go.Proofs.Qxb6604382a
open Go.RowKit
set_option linter.unusedVariables false

theorem OwnRow.shape {lo : Nat} {e : TypeId} {w : World} {v : Value} {vs : List Value} (h : OwnRow lo e w v vs) : ∃ a n c, v = .slice a n c := by
  rcases h with ⟨rfl, rfl⟩ | ⟨g, rfl, hg, hl⟩
  · exact ⟨_, _, _, rfl⟩
  · exact ⟨_, _, _, rfl⟩

/-- 'It answers a slice of slices that hold cs, all in new memory.' -/
def LCloned (e : TypeId) (cs : List (List Value)) (w : World) (en : Ending) (w' : World) : Prop :=
  ∃ v us, en = .returned v ∧ us.length = cs.length ∧ OwnRow w.heap.size e w' v us ∧ (∀ j, j < cs.length → IsRow w.heap.size w' (us.getD j undef) (cs.getD j [])) ∧ Below w.heap.size w w'

/-- .. the first k of them done. -/
def LRel (w : World) (n : Nat) (cs : List (List Value)) (e : TypeId) (k : Nat) (wr : World) : Prop :=
  k ≤ n ∧ ∃ us, us.length = k ∧ Arr wr w.heap.size e (us ++ List.replicate (n - k) (.slice none 0 0)) ∧ (∀ j, j < k → IsRow (w.heap.size + 1) wr (us.getD j undef) (cs.getD j [])) ∧ Below w.heap.size w wr

section
variable {w wr w1 : World} {n k : Nat} {cs : List (List Value)} {e e1 : TypeId} {v : Value}
theorem LRel.bel (h : LRel w n cs e k wr) : Below w.heap.size w wr := by
  obtain ⟨_, us, _, _, _, hb⟩ := h
  exact hb
theorem LRel.le (h : LRel w n cs e k wr) : k ≤ n := h.1
theorem LRel.old (h : LRel w n cs e k wr) (j : Nat) (hj : j < n) (hb1 : Below wr.heap.size wr w1) : ∃ u, w1.cell? ⟨w.heap.size, j, none⟩ = some u := by
  obtain ⟨hk, us, hl, ha, _, _⟩ := h
  exact (ha.below hb1 ha.lt).some j (by simp; omega)
theorem LRel.frozen (h : LRel w n cs e k wr) (j : Nat) (hb1 : Below wr.heap.size wr w1) : w1.frozen? ⟨w.heap.size, j, none⟩ = false := by
  obtain ⟨hk, us, hl, ha, _, _⟩ := h
  exact (ha.below hb1 ha.lt).frozen j
theorem LRel.put (h : LRel w n cs e k wr) (hk : k < n) (hn : cs.length = n) (hown : OwnRow wr.heap.size e1 w1 v (cs.getD k [])) (hb1 : Below wr.heap.size wr w1) : LRel w n cs e (k + 1) (w1.setCell ⟨w.heap.size, k, none⟩ v) := by
  obtain ⟨_, us, hl, ha, hin, hb⟩ := h
  have hlt := ha.lt
  have ha1 := (ha.below hb1 hlt).set k v
  refine ⟨hk, us ++ [v], by simp [hl], ?_, ?_, (hb.trans (hb1.mono (Nat.le_of_lt hlt))).setCell (Nat.le_refl _) _⟩
  · rw [show (us ++ List.replicate (n - k) (Value.slice none 0 0)).set k v = us ++ [v] ++ List.replicate (n - (k + 1)) (.slice none 0 0) from ?_] at ha1
    · exact ha1
    · rw [List.set_append_right _ _ (by omega), hl, Nat.sub_self, show n - k = (n - (k + 1)) + 1 by omega, List.replicate_succ, List.set_cons_zero]
      simp
  · intro j hj
    have hset : ∀ b, w.heap.size + 1 ≤ b → b < w1.heap.size → (w1.setCell ⟨w.heap.size, k, none⟩ v).heap[b]? = w1.heap[b]? := fun b hb _ => Below.heap_setCell _ _ _ _ (by show b ≠ w.heap.size; omega)
    by_cases e : j = k
    · subst e
      have : (us ++ [v]).getD j undef = v := by simp [← hl]
      rw [this]
      exact (hown.is.mono (show w.heap.size + 1 ≤ wr.heap.size by omega)).same hset
    · have hjk : j < k := by omega
      have : (us ++ [v]).getD j undef = us.getD j undef := by simp [List.getElem?_append_left, hl, hjk]
      rw [this]
      exact ((hin j hjk).below hb1).same hset
theorem LRel.done (h : LRel w n cs e n wr) (hn : cs.length = n) : LCloned e cs w (.returned (.slice (some ⟨w.heap.size, 0, none⟩) n n)) wr := by
  obtain ⟨_, us, hl, ha, hin, hb⟩ := h
  refine ⟨_, us, rfl, by omega, .inr ⟨w.heap.size, by rw [hl], by simpa using ha, Nat.le_refl _⟩, fun j hj => (hin j (by omega)).mono (by omega), hb⟩
end

set_option maxHeartbeats 400000 in
theorem clone7_some (ad : Addr) (c : Nat) (us : List Value) (cs : List (List Value)) (w : World) (lo : Nat) (hz : us.length ≤ 10000000) (hcl : cs.length = us.length) (h1 : Row lo w (some ad) us)
    (hsh : ∀ i, i < us.length → ∀ j, j < (cs.getD i []).length → ∃ x, (cs.getD i []).getD j undef = Value.int .i64 x) (hlen : ∀ i, i < us.length → (cs.getD i []).length ≤ 10000000) (hin : ∀ i, i < us.length → IsRow 0 w (us.getD i undef) (cs.getD i [])) :
    Calls Try.prog 7 #[.slice (some ad) us.length c] w (LCloned 25 cs w) := by
  obtain ⟨b, off, hix, hcell, _⟩ := row_open h1 Try.underlying22 Try.info25
  clear h1
  have hmk : ∀ w, (Instr.makeSlice 22 (.int .i64 us.length) (.int .i64 us.length)).run Try.prog w = .ok (.slice (some ⟨w.heap.size, 0, none⟩) us.length us.length) (w.alloc (.cells (Array.replicate us.length (.slice none 0 0)) 25)) :=
    fun w => make_one Try.underlying22 Try.info25 rfl us.length (by omega) (by omega) w
  have hnil := fun w => Lib.run_eql_slice_nil (P := Try.prog) w 22 25 (some ad) us.length c 0 0 Try.underlying22
  have HC : Hid (∀ j, j < us.length → w.cell? ⟨b, off + j, none⟩ = some (us.getD j undef)) := hcell
  have HI : Hid (∀ i, i < us.length → IsRow 0 w (us.getD i undef) (cs.getD i [])) := hin
  have HS : Hid (∀ i, i < us.length → ∀ j, j < (cs.getD i []).length → ∃ x, (cs.getD i []).getD j undef = Value.int .i64 x) := hsh
  have HL : Hid (∀ i, i < us.length → (cs.getD i []).length ≤ 10000000) := hlen
  have HN : Hid (cs.length = us.length) := hcl
  have hixN : ∀ (k : Nat) (w' : World), k < us.length → (Instr.indexAt 22 (.slice (some ⟨w.heap.size, 0, none⟩) us.length us.length) (.int .i64 k)).run Try.prog w' = .ok (.pointer (some ⟨w.heap.size, k, none⟩)) w' :=
    fun k w' hk => by simpa using indexAt_one Try.underlying22 Try.info25 w.heap.size 0 _ us.length k hk w'
  clear hcell hin hsh hlen hcl
  go_enter Try.func7, Try.ntmps7
  go_wp2
  go_loopw [4] (fun i wr => ∃ k : Nat, i = .int .i64 k ∧ LRel w us.length cs 25 k wr) (fun i _ => us.length - (intOf i).toNat)
  case atStart => exact ⟨0, rfl, Nat.zero_le _, [], rfl, by simpa using Arr.new w (Array.replicate us.length (.slice none 0 0)) 25, fun j hj => (by omega), (Below.refl _ _).alloc (Nat.le_refl _) _⟩
  case round =>
    obtain ⟨k, rfl, hrel⟩ := hrel
    by_cases hlt : k < us.length
    · have g1 : wr.cell? ⟨b, off + k, none⟩ = some (us.getD k undef) := cell_later hrel.bel (HC.out k hlt)
      have hk : IsRow 0 wr (us.getD k undef) (cs.getD k []) := (HI.out k hlt).below hrel.bel
      have hcall := clone10_any (us.getD k undef) (cs.getD k []) wr 0 (HL.out k hlt) (HS.out k hlt) hk
      obtain ⟨a1, c1, hv, _⟩ := hk
      rw [hv] at g1 hcall
      clear hv
      generalize (cs.getD k []).length = n1 at *
      go_wp2_with fail
      refine hcall.mono ?_
      rintro en w1 ⟨v, rfl, hown, hb1⟩
      have hrel1 := hrel.put hlt HN.out hown hb1
      obtain ⟨u, g2⟩ := hrel.old k hlt hb1
      have g3 := hrel.frozen k hb1
      obtain ⟨a2, n2, c2, rfl⟩ := hown.shape
      go_wp2
      go_roundw
      case rel => exact ⟨k + 1, by go_num, hrel1⟩
      case measure => simp [intOf]; omega
    · have e : k = us.length := by have := hrel.le; omega
      go_wp2
      go_ret
      subst e
      exact hrel.done HN.out
set_option maxHeartbeats 400000 in
theorem clone7_nil (w : World) : Calls Try.prog 7 #[.slice none 0 0] w (LCloned 25 [] w) := by
  have hnil := fun w => Lib.run_eql_slice_nil (P := Try.prog) w 22 25 none 0 0 0 0 Try.underlying22
  go_enter Try.func7, Try.ntmps7
  go_wp2
  go_ret
  exact ⟨_, [], rfl, rfl, .inl ⟨rfl, rfl⟩, fun j hj => (by simp at hj), Below.refl _ _⟩
theorem clone7_any (v : Value) (us : List Value) (cs : List (List Value)) (w : World) (lo : Nat) (hz : us.length ≤ 10000000) (hcl : cs.length = us.length) (hc : IsRow lo w v us)
    (hsh : ∀ i, i < us.length → ∀ j, j < (cs.getD i []).length → ∃ x, (cs.getD i []).getD j undef = Value.int .i64 x) (hlen : ∀ i, i < us.length → (cs.getD i []).length ≤ 10000000) (hin : ∀ i, i < us.length → IsRow 0 w (us.getD i undef) (cs.getD i [])) :
    Calls Try.prog 7 #[v] w (LCloned 25 cs w) := by
  obtain ⟨a, c, rfl, hn, hr⟩ := hc
  cases a with
  | none =>
    obtain ⟨rfl, rfl⟩ := hn rfl
    obtain rfl : cs = [] := List.length_eq_zero_iff.1 hcl
    exact clone7_nil w
  | some ad => exact clone7_some ad c us cs w lo hz hcl hr hsh hlen hin

set_option maxHeartbeats 400000 in
theorem clone9_some (ad : Addr) (c : Nat) (us : List Value) (cs : List (List Value)) (w : World) (lo : Nat) (hz : us.length ≤ 10000000) (hcl : cs.length = us.length) (h1 : Row lo w (some ad) us)
    (hsh : ∀ i, i < us.length → ∀ j, j < (cs.getD i []).length → ∃ x, (cs.getD i []).getD j undef = Value.int .u8 x) (hlen : ∀ i, i < us.length → (cs.getD i []).length ≤ 10000000) (hin : ∀ i, i < us.length → IsRow 0 w (us.getD i undef) (cs.getD i [])) :
    Calls Try.prog 9 #[.slice (some ad) us.length c] w (LCloned 33 cs w) := by
  obtain ⟨b, off, hix, hcell, _⟩ := row_open h1 Try.underlying24 Try.info33
  clear h1
  have hmk : ∀ w, (Instr.makeSlice 24 (.int .i64 us.length) (.int .i64 us.length)).run Try.prog w = .ok (.slice (some ⟨w.heap.size, 0, none⟩) us.length us.length) (w.alloc (.cells (Array.replicate us.length (.slice none 0 0)) 33)) :=
    fun w => make_one Try.underlying24 Try.info33 rfl us.length (by omega) (by omega) w
  have hnil := fun w => Lib.run_eql_slice_nil (P := Try.prog) w 24 33 (some ad) us.length c 0 0 Try.underlying24
  have HC : Hid (∀ j, j < us.length → w.cell? ⟨b, off + j, none⟩ = some (us.getD j undef)) := hcell
  have HI : Hid (∀ i, i < us.length → IsRow 0 w (us.getD i undef) (cs.getD i [])) := hin
  have HS : Hid (∀ i, i < us.length → ∀ j, j < (cs.getD i []).length → ∃ x, (cs.getD i []).getD j undef = Value.int .u8 x) := hsh
  have HL : Hid (∀ i, i < us.length → (cs.getD i []).length ≤ 10000000) := hlen
  have HN : Hid (cs.length = us.length) := hcl
  have hixN : ∀ (k : Nat) (w' : World), k < us.length → (Instr.indexAt 24 (.slice (some ⟨w.heap.size, 0, none⟩) us.length us.length) (.int .i64 k)).run Try.prog w' = .ok (.pointer (some ⟨w.heap.size, k, none⟩)) w' :=
    fun k w' hk => by simpa using indexAt_one Try.underlying24 Try.info33 w.heap.size 0 _ us.length k hk w'
  clear hcell hin hsh hlen hcl
  go_enter Try.func9, Try.ntmps9
  go_wp2
  go_loopw [4] (fun i wr => ∃ k : Nat, i = .int .i64 k ∧ LRel w us.length cs 33 k wr) (fun i _ => us.length - (intOf i).toNat)
  case atStart => exact ⟨0, rfl, Nat.zero_le _, [], rfl, by simpa using Arr.new w (Array.replicate us.length (.slice none 0 0)) 33, fun j hj => (by omega), (Below.refl _ _).alloc (Nat.le_refl _) _⟩
  case round =>
    obtain ⟨k, rfl, hrel⟩ := hrel
    by_cases hlt : k < us.length
    · have g1 : wr.cell? ⟨b, off + k, none⟩ = some (us.getD k undef) := cell_later hrel.bel (HC.out k hlt)
      have hk : IsRow 0 wr (us.getD k undef) (cs.getD k []) := (HI.out k hlt).below hrel.bel
      have hcall := clone14_any (us.getD k undef) (cs.getD k []) wr 0 (HL.out k hlt) (HS.out k hlt) hk
      obtain ⟨a1, c1, hv, _⟩ := hk
      rw [hv] at g1 hcall
      clear hv
      generalize (cs.getD k []).length = n1 at *
      go_wp2_with fail
      refine hcall.mono ?_
      rintro en w1 ⟨v, rfl, hown, hb1⟩
      have hrel1 := hrel.put hlt HN.out hown hb1
      obtain ⟨u, g2⟩ := hrel.old k hlt hb1
      have g3 := hrel.frozen k hb1
      obtain ⟨a2, n2, c2, rfl⟩ := hown.shape
      go_wp2
      go_roundw
      case rel => exact ⟨k + 1, by go_num, hrel1⟩
      case measure => simp [intOf]; omega
    · have e : k = us.length := by have := hrel.le; omega
      go_wp2
      go_ret
      subst e
      exact hrel.done HN.out
set_option maxHeartbeats 400000 in
theorem clone9_nil (w : World) : Calls Try.prog 9 #[.slice none 0 0] w (LCloned 33 [] w) := by
  have hnil := fun w => Lib.run_eql_slice_nil (P := Try.prog) w 24 33 none 0 0 0 0 Try.underlying24
  go_enter Try.func9, Try.ntmps9
  go_wp2
  go_ret
  exact ⟨_, [], rfl, rfl, .inl ⟨rfl, rfl⟩, fun j hj => (by simp at hj), Below.refl _ _⟩
theorem clone9_any (v : Value) (us : List Value) (cs : List (List Value)) (w : World) (lo : Nat) (hz : us.length ≤ 10000000) (hcl : cs.length = us.length) (hc : IsRow lo w v us)
    (hsh : ∀ i, i < us.length → ∀ j, j < (cs.getD i []).length → ∃ x, (cs.getD i []).getD j undef = Value.int .u8 x) (hlen : ∀ i, i < us.length → (cs.getD i []).length ≤ 10000000) (hin : ∀ i, i < us.length → IsRow 0 w (us.getD i undef) (cs.getD i [])) :
    Calls Try.prog 9 #[v] w (LCloned 33 cs w) := by
  obtain ⟨a, c, rfl, hn, hr⟩ := hc
  cases a with
  | none =>
    obtain ⟨rfl, rfl⟩ := hn rfl
    obtain rfl : cs = [] := List.length_eq_zero_iff.1 hcl
    exact clone9_nil w
  | some ad => exact clone9_some ad c us cs w lo hz hcl hr hsh hlen hin
end Go.Proofs.Qxb6604382a
