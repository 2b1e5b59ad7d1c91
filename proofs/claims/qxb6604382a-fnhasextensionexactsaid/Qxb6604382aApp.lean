import Derived.Test.Qxb6604382aHas2
import Derived.OwnWalk
import Derived.Maps.AppendAt
namespace Go.Proofs.Qxb6604382a
open Go.RowKit Go.Maps
set_option linter.unusedVariables false

/-- Block 'g', laid behind w0, is a row of 'cap' slices whose first are 'vs'; of what w0 had nothing has turned. -/
structure VRow (w0 wr : World) (g cap : Nat) (vs : List Value) : Prop where
  own : wr.ownsRow 0 25 1 (.slice (some ⟨g, 0, none⟩) vs.length cap) vs.length vs
  lo : w0.heap.size ≤ g
  bel : Below w0.heap.size w0 wr

section
variable {w0 w w' : World} {g cap : Nat} {vs : List Value}
theorem VRow.row (h : VRow w0 w g cap vs) : Row 0 w (some ⟨g, 0, none⟩) vs := by
  intro j hj
  refine ⟨g, 0, rfl, Nat.zero_le _, ?_⟩
  have := World.ownsRow.cellAt h.own j (by omega)
  rw [Nat.zero_add, this]
  simp [hj]
theorem VRow.alloc (h : VRow w0 w g cap vs) (o : Obj) : VRow w0 (w.alloc o) g cap vs := ⟨World.ownsRow.alloc h.own o, h.lo, h.bel.alloc h.bel.size o⟩

theorem VRow.made (w : World) (n : Nat) (hn : n ≤ 10000000) : VRow w (w.alloc (.cells (madeCells #[.slice none 0 0] n) 25)) w.heap.size n [] := by
  refine ⟨⟨rfl, .inr ⟨w.heap.size, n, (madeCells #[.slice none 0 0] n), rfl, Nat.zero_le _, ?_, Nat.zero_le _, by unfold maxLen; omega, by simp [madeCells], by simp⟩⟩, Nat.le_refl _, (Below.refl _ _).alloc (Nat.le_refl _) _⟩
  show (w.heap.push _)[w.heap.size]? = _
  simp
end

/-- 'make([][]int, 0, n)'. -/
theorem make_room (n : Nat) (hn : n ≤ 10000000) (w : World) :
    (Instr.makeSlice 22 (.int .i64 0) (.int .i64 n)).run Try.prog w = .ok (.slice (some ⟨w.heap.size, 0, none⟩) 0 n) (w.alloc (.cells (madeCells #[.slice none 0 0] n) 25)) := by
  obtain ⟨i, hi, hz0, hz1, hz2⟩ := info_parts Try.info25
  have := run_make (P := Try.prog) w 22 25 i _ Try.underlying22 hi hz0 .i64 .i64 0 n (by omega) (by omega) (by rw [hz2]; omega) (by omega)
  rw [this]
  simp [hz1, Value.cells]

section
variable {w0 w : World} {ops : Array Oper} {rest : List Oper} {o : Oper} {a : Act} {Q : Exit → Act → World → Prop}
/-- 'append(v, x)' of one slice, at the operation: x lies in a block of its own. -/
theorem wpList_vappend1 (hgd : o.guard = none) (s x : Operand) (ho : o.op = .call { callee := .builtin .append, args := #[s, x], argTypes := #[22, 22] })
    (g cap : Nat) (vs : List Value) (b : Nat) (ua : Option Addr) (un uc : Nat) (hs : a.eval s = .slice (some ⟨g, 0, none⟩) vs.length cap) (h : VRow w0 w g cap vs) (hx : a.eval x = .slice (some ⟨b, 0, none⟩) 1 1) (hy : w.cell? ⟨b, 0, none⟩ = some (.slice ua un uc)) (hb : vs.length + 1 ≤ 2000000)
    (hK : ∀ g' cap' w', VRow w0 w' g' cap' (vs ++ [.slice ua un uc]) → wpList Try.prog ops Q rest (a.put o.dst (.slice (some ⟨g', 0, none⟩) (vs.length + 1) cap')) w') : wpList Try.prog ops Q (o :: rest) a w := by
  refine wpList_plain hgd fun K hKK => ?_
  obtain ⟨i, hi, hz0, hz1, hz2⟩ := info_parts Try.info25
  obtain ⟨v', w', hr, h1, h2, h3, h4⟩ := run_append_own_at (P := Try.prog) w 0 22 o.type 25 i (.slice none 0 0) 1 24 Try.underlying22 hi hz0 hz1 hz2 rfl (by decide) _ vs.length _ h.own ⟨b, 0, none⟩ 1 1 [.slice ua un uc] rfl
      (by
        intro j u hu
        cases j with
        | zero => simp at hu; subst hu; exact hy
        | succ j => simp at hu) (by simp [Value.oneCell']) (by unfold maxLen; omega) (by omega) (Nat.zero_le _)
  have hlen : (vs ++ [Value.slice ua un uc]).length = vs.length + 1 := by simp
  rcases h1.2 with ⟨e, _⟩ | ⟨g', cap', cur, hv', r⟩
  · rw [h3] at e; simp at e
  · unfold Oper.wp execOp
    simp only [ho, resolve, invoke, builtin, Sem.run_bind, Sem.run_pure, Result.andThen_ok, List.map_toArray, List.map_cons, List.map_nil, hs, hx]
    rw [hr]
    simp only [Result.andThen_ok]
    refine hKK _ _ ?_
    show wpList Try.prog ops Q rest (a.put o.dst v') w'
    subst hv'
    refine hK g' cap' w' ⟨by rw [hlen]; exact h1, ?_, ?_⟩
    · have : some g' = some g ∨ some g' = some w.heap.size := h4
      rcases this with e | e
      · cases e; exact h.lo
      · cases e; exact h.bel.size
    · exact h.bel.grown h2 h.bel.size (fun k hk => by have : some g = some k := hk; cases this; exact h.lo)
end
end Go.Proofs.Qxb6604382a
