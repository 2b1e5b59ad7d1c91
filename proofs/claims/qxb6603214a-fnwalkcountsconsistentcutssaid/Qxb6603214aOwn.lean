import Derived.Test.Qxb6603214aVMap
import Derived.Laws.AppendOwnNone
namespace Go.Proofs.Qxb6603214a
open Go.RowKit Go.Maps
set_option linter.unusedVariables false

/-! ### Slices of numbers of the call's own, with room behind them -/
/-- The slice value 'v' owns the numbers 'zs' (nil: none). -/
def IOwn (w : World) (v : Value) (zs : List Int) : Prop := w.ownsRow 0 3 1 v zs.length (zs.map (Value.int .i64))
/-- Block 'g' is a row of 'cap' cells whose first are the numbers 'zs'. -/
def IRow (w : World) (g cap : Nat) (zs : List Int) : Prop := IOwn w (.slice (some ⟨g, 0, none⟩) zs.length cap) zs

section
variable {w w' : World} {g cap : Nat} {zs ys : List Int} {v : Value}
theorem IRow.cell (h : IRow w g cap zs) (j : Nat) (hj : j < zs.length) : w.cell? ⟨g, j, none⟩ = some (.int .i64 (zs.getD j 0)) := by
  rw [World.ownsRow.cellAt h j (by omega)]; simp [hj]
theorem IRow.frozen (h : IRow w g cap zs) (j : Nat) : w.frozen? ⟨g, j, none⟩ = false := World.ownsRow.frozenAt h j
theorem IRow.set (h : IRow w g cap zs) (j : Nat) (x : Int) (hj : j < zs.length) : IRow (w.setCell ⟨g, j, none⟩ (.int .i64 x)) g cap (zs.set j x) := by
  have := (World.ownsRow.stored h j (.int .i64 x)).1
  unfold IRow IOwn
  rw [List.length_set, List.map_set]
  exact this
theorem IOwn.kept {row : Option Nat} (h : IOwn w v zs) (hg : w.grownBy w' row) (hne : v.ownBlock = none ∨ v.ownBlock ≠ row) : IOwn w' v zs := World.ownsRow.kept h hg hne
theorem IRow.kept {row : Option Nat} (h : IRow w g cap zs) (hg : w.grownBy w' row) (hne : some g ≠ row) : IRow w' g cap zs := IOwn.kept h hg (.inr hne)
theorem IOwn.setCell (h : IOwn w v zs) {a : Addr} (ha : v.ownBlock ≠ some a.block) (u : Value) : IOwn (w.setCell a u) v zs := ownsRow_setCell_other h ha u
theorem IRow.setCell (h : IRow w g cap zs) {a : Addr} (ha : g ≠ a.block) (u : Value) : IRow (w.setCell a u) g cap zs := IOwn.setCell h (by simpa [Value.ownBlock] using ha) u
theorem IOwn.alloc (h : IOwn w v zs) (o : Obj) : IOwn (w.alloc o) v zs := World.ownsRow.alloc h o
theorem IRow.alloc (h : IRow w g cap zs) (o : Obj) : IRow (w.alloc o) g cap zs := World.ownsRow.alloc h o
theorem IRow.lt (h : IRow w g cap zs) : g < w.heap.size := (World.ownsRow.lt h g rfl).2
theorem IOwn.lt (h : IOwn w v zs) (k : Nat) (hk : v.ownBlock = some k) : k < w.heap.size := (World.ownsRow.lt h k hk).2
theorem IRow.room (h : IRow w g cap zs) : zs.length ≤ cap ∧ cap ≤ maxLen := by
  rcases h.2 with ⟨hv, _⟩ | ⟨g', cap', cur, hv, _, _, r1, r2, _⟩
  · cases hv
  · simp at hv
    omega
theorem IRow.ints (h : IRow w g cap zs) : Ints w (some ⟨g, 0, none⟩) zs := fun j hj => ⟨g, 0, rfl, by simpa using h.cell j hj⟩
theorem IOwn.nil (w : World) : IOwn w (.slice none 0 0) [] := World.ownsRow_nil w 0 3 1
theorem IOwn.cases (h : IOwn w v zs) : (v = .slice none 0 0 ∧ zs = []) ∨ ∃ g cap, v = .slice (some ⟨g, 0, none⟩) zs.length cap ∧ IRow w g cap zs := by
  rcases h.2 with ⟨rfl, h0⟩ | ⟨g, cap, cur, hv, r⟩
  · exact .inl ⟨rfl, List.length_eq_zero_iff.1 h0⟩
  · exact .inr ⟨g, cap, hv, by subst hv; exact h⟩
theorem IRow.of_arr (h : IArr w g zs) (hz : zs.length ≤ maxLen) : IRow w g zs.length zs := by
  refine ⟨by simp, .inr ⟨g, zs.length, _, rfl, Nat.zero_le _, h, Nat.le_refl _, hz, by simp, by simp [List.take_of_length_le]⟩⟩
theorem IRow.pop {x : Int} (h : IRow w g cap (zs ++ [x])) : IRow w g cap zs := by
  obtain ⟨h1, h2⟩ := h
  rcases h2 with ⟨hv, _⟩ | ⟨g', cap', cur, hv, _, hh, hc, hm, hs, ht⟩
  · cases hv
  · simp at hv
    obtain ⟨rfl, rfl⟩ := hv
    refine ⟨by simp, .inr ⟨g, cap, cur, rfl, Nat.zero_le _, hh, by simp at hc; omega, hm, hs, ?_⟩⟩
    have := congrArg (List.take zs.length) ht
    rw [List.take_take] at this
    simpa using this

theorem i3 : ∃ i, Try.prog.info? 3 = some i ∧ i.zero = some (.int .i64 0) ∧ i.size = 1 ∧ i.bytes = 8 := info_parts Try.info3

/-- 'append(v, ys...)', the source wherever it lies. -/
theorem run_iappend (h : IOwn w v zs) (ao : Option Addr) (c : Nat) (hn : ao = none → ys = [] ∧ c = 0) (hs : Ints w ao ys) (hb : zs.length + ys.length ≤ 10000000) (ty : TypeId) :
    ∃ v' w', (Builtin.append_ #[23, 23] ty #[v, .slice ao ys.length c]).run Try.prog w = .ok v' w' ∧ IOwn w' v' (zs ++ ys) ∧ w.grownBy w' v.ownBlock ∧ (v' = .slice none 0 0 ↔ v = .slice none 0 0 ∧ ys = []) ∧ (v'.ownBlock = v.ownBlock ∨ v'.ownBlock = some w.heap.size) := by
  obtain ⟨i, hi, hz0, hz1, hz2⟩ := i3
  cases ao with
  | none =>
    obtain ⟨rfl, rfl⟩ := hn rfl
    have := run_append_owned_none (P := Try.prog) (w := w) 0 23 ty 3 i 1 Try.underlying23 hi v zs.length _ h
    exact ⟨v, w, this, by simpa using h, World.grownBy.refl _ _, by simp, .inl rfl⟩
  | some ad =>
    obtain ⟨v', w', hr, h1, h2, h3, h4⟩ := run_append_own_at (P := Try.prog) w 0 23 ty 3 i (.int .i64 0) 1 8 Try.underlying23 hi hz0 hz1 hz2 rfl (by decide) v zs.length _ h ad ys.length c (ys.map (Value.int .i64)) (by simp)
      (by
        intro j u hu
        simp at hu
        obtain ⟨x, hx, rfl⟩ := hu
        have hj : j < ys.length := (List.getElem?_eq_some_iff.1 hx).1
        obtain ⟨b, off, ha, hc⟩ := hs j hj
        simp at ha
        subst ha
        rw [show (⟨b, off, none⟩ : Addr).add j = ⟨b, off + j, none⟩ by unfold Addr.add; split <;> simp_all, hc]
        simp [hx]) (ints_oneCell .i64 ys) (by unfold maxLen; omega) (by omega) (Nat.zero_le _)
    refine ⟨v', w', hr, ?_, h2, ?_, h4⟩
    · unfold IOwn; simpa using h1
    · rw [h3]; simp
end

section
variable {w : World} {ops : Array Oper} {rest : List Oper} {o : Oper} {a : Act} {Q : Exit → Act → World → Prop}
/-- 'append(v, x)' of one number, at the operation: x lies in a block of its own. -/
theorem wpList_iappend1 (hgd : o.guard = none) (s x : Operand) (ho : o.op = .call { callee := .builtin .append, args := #[s, x], argTypes := #[23, 23] })
    (v : Value) (zs : List Int) (y : Int) (b : Nat) (hs : a.eval s = v) (h : IOwn w v zs) (hx : a.eval x = .slice (some ⟨b, 0, none⟩) 1 1) (hy : w.cell? ⟨b, 0, none⟩ = some (.int .i64 y)) (hb : zs.length + 1 ≤ 10000000)
    (hK : ∀ g cap w', IRow w' g cap (zs ++ [y]) → w.grownBy w' v.ownBlock → (v.ownBlock = some g ∨ g = w.heap.size) → wpList Try.prog ops Q rest (a.put o.dst (.slice (some ⟨g, 0, none⟩) (zs.length + 1) cap)) w') : wpList Try.prog ops Q (o :: rest) a w := by
  refine wpList_plain hgd fun K hKK => ?_
  obtain ⟨v', w', hr, h1, h2, h3, h4⟩ := run_iappend (ys := [y]) h (some ⟨b, 0, none⟩) 1 (by simp) (fun j hj => ⟨b, 0, rfl, by simp at hj; subst hj; simpa using hy⟩) hb o.type
  rcases h1.cases with ⟨_, e⟩ | ⟨g, cap, hv, hrow⟩
  · simp at e
  · unfold Oper.wp execOp
    simp only [ho, resolve, invoke, builtin, Sem.run_bind, Sem.run_pure, Result.andThen_ok, List.map_toArray, List.map_cons, List.map_nil, hs, hx]
    simp only [List.length_singleton] at hr
    rw [hr]
    simp only [Result.andThen_ok]
    refine hKK _ _ ?_
    have hv2 : v' = .slice (some ⟨g, 0, none⟩) (zs.length + 1) cap := by rw [hv]; simp
    show wpList Try.prog ops Q rest (a.put o.dst v') w'
    rw [hv2]
    refine hK g cap w' hrow h2 ?_
    rw [hv] at h4
    simp [Value.ownBlock] at h4
    rcases h4 with h4 | h4
    · left; rw [h4]; rfl
    · right; exact h4
/-- 'append(xs, ys...)', xs of the call's own, ys wherever it lies, at the operation. -/
theorem wpList_iappendX (hgd : o.guard = none) (s x : Operand) (ho : o.op = .call { callee := .builtin .append, args := #[s, x], argTypes := #[23, 23] })
    (g cap : Nat) (zs : List Int) (ao : Option Addr) (c : Nat) (ys : List Int) (hs : a.eval s = .slice (some ⟨g, 0, none⟩) zs.length cap) (h : IRow w g cap zs) (hx : a.eval x = .slice ao ys.length c) (hn : ao = none → ys = [] ∧ c = 0) (hi : Ints w ao ys) (hb : zs.length + ys.length ≤ 10000000)
    (hK : ∀ g' cap' w', IRow w' g' cap' (zs ++ ys) → w.grownBy w' (some g) → (g' = g ∨ g' = w.heap.size) → wpList Try.prog ops Q rest (a.put o.dst (.slice (some ⟨g', 0, none⟩) (zs ++ ys).length cap')) w') : wpList Try.prog ops Q (o :: rest) a w := by
  refine wpList_plain hgd fun K hKK => ?_
  obtain ⟨v', w', hr, h1, h2, h3, h4⟩ := run_iappend h ao c hn hi hb o.type
  rcases h1.cases with ⟨e, _⟩ | ⟨g', cap', hv', hrow⟩
  · rw [h3] at e; simp at e
  · unfold Oper.wp execOp
    simp only [ho, resolve, invoke, builtin, Sem.run_bind, Sem.run_pure, Result.andThen_ok, List.map_toArray, List.map_cons, List.map_nil, hs, hx]
    rw [hr]
    simp only [Result.andThen_ok]
    refine hKK _ _ ?_
    show wpList Try.prog ops Q rest (a.put o.dst v') w'
    rw [hv']
    refine hK g' cap' w' hrow h2 ?_
    rw [hv'] at h4
    simpa [Value.ownBlock] using h4
/-- 'append(xs, v...)', both of the call's own, at the operation. -/
theorem wpList_iappendS (hgd : o.guard = none) (s x : Operand) (ho : o.op = .call { callee := .builtin .append, args := #[s, x], argTypes := #[23, 23] })
    (g cap : Nat) (zs : List Int) (v : Value) (ys : List Int) (hs : a.eval s = .slice (some ⟨g, 0, none⟩) zs.length cap) (h : IRow w g cap zs) (hx : a.eval x = v) (hv : IOwn w v ys) (hb : zs.length + ys.length ≤ 10000000)
    (hK : ∀ g' cap' w', IRow w' g' cap' (zs ++ ys) → w.grownBy w' (some g) → (g' = g ∨ g' = w.heap.size) → wpList Try.prog ops Q rest (a.put o.dst (.slice (some ⟨g', 0, none⟩) (zs ++ ys).length cap')) w') : wpList Try.prog ops Q (o :: rest) a w := by
  have hex : ∃ ao c, v = .slice ao ys.length c ∧ (ao = none → ys = [] ∧ c = 0) ∧ Ints w ao ys := by
    rcases hv.cases with ⟨rfl, rfl⟩ | ⟨g2, cap2, rfl, hr2⟩
    · exact ⟨none, 0, rfl, fun _ => ⟨rfl, rfl⟩, Ints.nil _ _⟩
    · exact ⟨_, cap2, rfl, fun h => (by cases h), hr2.ints⟩
  obtain ⟨ao, c, rfl, hn, hi⟩ := hex
  exact wpList_iappendX hgd s x ho g cap zs ao c ys hs h hx hn hi hb hK
end
end Go.Proofs.Qxb6603214a
