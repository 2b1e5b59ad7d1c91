import Derived.Test.Qxb6603214aWalkQ
import Derived.Test.Qxb6603214aOwn
import Derived.Test.Qxb6603214aModel
import Derived.OwnWalk
import Derived.Maps.AppendAt
namespace Go.Proofs.Qxb6603214a
open Go.RowKit Go.Maps WalkP
set_option linter.unusedVariables false

theorem Try.info83 : (Try.prog.info? 83).map (fun i => (i.zero, i.size, i.bytes)) = some (some (.agg #[.int .i64 0, .int .i64 0, .int .i64 0, .int .i64 0, .int .i64 0]), 5, 40) := by kernel_rfl

/-! ### The walk's path in memory -/
/-- An element's five cells. -/
def peCells (e : PE) : List Value := [.int .i64 e.proc, .int .i64 e.below, .int .i64 e.receives, .int .i64 e.receivers, .int .i64 e.next]
/-- The path's cells: its top lies last. -/
def pcells : List PE → List Value
  | [] => []
  | e :: rest => pcells rest ++ peCells e
theorem pcells_length (p : List PE) : (pcells p).length = p.length * 5 := by
  induction p with
  | nil => rfl
  | cons e rest ih => simp [pcells, peCells, ih]; omega

/-- Block 'g' holds the path, with room for 'cap' elements. -/
def PRow (w : World) (g cap : Nat) (p : List PE) : Prop := w.ownsRow 0 83 5 (.slice (some ⟨g, 0, none⟩) p.length cap) p.length (pcells p)

section
variable {w w' : World} {g cap : Nat} {e : PE} {rest p : List PE}
theorem PRow.top (h : PRow w g cap (e :: rest)) (f : Nat) (hf : f < 5) : w.cell? ⟨g, rest.length * 5 + f, none⟩ = (peCells e)[f]? := by
  rw [World.ownsRow.cellAt h _ (by simp; omega)]
  show (pcells rest ++ peCells e)[rest.length * 5 + f]? = _
  rw [List.getElem?_append_right (by rw [pcells_length]; omega), pcells_length]
  congr 1
  omega
theorem PRow.frozen (h : PRow w g cap p) (j : Nat) : w.frozen? ⟨g, j, none⟩ = false := World.ownsRow.frozenAt h j
theorem PRow.alloc (h : PRow w g cap p) (o : Obj) : PRow (w.alloc o) g cap p := World.ownsRow.alloc h o
theorem PRow.kept {row : Option Nat} (h : PRow w g cap p) (hg : w.grownBy w' row) (hne : some g ≠ row) : PRow w' g cap p := World.ownsRow.kept h hg (.inr hne)
theorem PRow.setCell (h : PRow w g cap p) {a : Addr} (ha : g ≠ a.block) (u : Value) : PRow (w.setCell a u) g cap p := ownsRow_setCell_other h (by simpa [Value.ownBlock] using ha) u
theorem PRow.drewN (h : PRow w g cap p) (d : Nat) : PRow (w.drewN d) g cap p := h
theorem PRow.lt (h : PRow w g cap p) : g < w.heap.size := (World.ownsRow.lt h g rfl).2
theorem PRow.same (h : PRow w g cap p) (hk : w'.heap[g]? = w.heap[g]?) : PRow w' g cap p := by
  refine ⟨h.1, ?_⟩
  rcases h.2 with ⟨hv, _⟩ | ⟨g', cap', cur, hv, hb, hgg, r⟩
  · cases hv
  · simp at hv
    obtain ⟨rfl, rfl⟩ := hv
    exact .inr ⟨g, cap, cur, rfl, hb, hk.trans hgg, r⟩
theorem PRow.room (h : PRow w g cap p) : p.length ≤ cap ∧ cap ≤ maxLen := by
  rcases h.2 with ⟨hv, _⟩ | ⟨g', cap', cur, hv, _, _, r1, r2, _⟩
  · cases hv
  · simp at hv
    omega
theorem PRow.pop (h : PRow w g cap (e :: rest)) : PRow w g cap rest := by
  obtain ⟨h1, h2⟩ := h
  rcases h2 with ⟨hv, _⟩ | ⟨g', cap', cur, hv, _, hh, hc, hm, hs, ht⟩
  · cases hv
  · simp at hv
    obtain ⟨rfl, rfl⟩ := hv
    refine ⟨pcells_length rest, .inr ⟨g, cap, cur, rfl, Nat.zero_le _, hh, by simp at hc; omega, hm, hs, ?_⟩⟩
    have := congrArg (List.take (rest.length * 5)) ht
    rw [List.take_take, show min (rest.length * 5) ((e :: rest).length * 5) = rest.length * 5 by rw [List.length_cons]; omega] at this
    rw [this]
    show List.take _ (pcells rest ++ peCells e) = _
    rw [List.take_append_of_le_length (by rw [pcells_length]; omega), List.take_of_length_le (by rw [pcells_length]; omega)]
theorem PRow.bump (h : PRow w g cap (e :: rest)) : PRow (w.setCell ⟨g, rest.length * 5 + 4, none⟩ (.int .i64 (e.next + 1))) g cap (e.bump :: rest) := by
  have := (World.ownsRow.stored h (rest.length * 5 + 4) (.int .i64 (e.next + 1))).1
  unfold PRow
  have e1 : (pcells (e :: rest)).set (rest.length * 5 + 4) (.int .i64 (e.next + 1)) = pcells (e.bump :: rest) := by
    show (pcells rest ++ peCells e).set _ _ = pcells rest ++ peCells e.bump
    rw [List.set_append_right _ _ (by rw [pcells_length]; omega), pcells_length, show rest.length * 5 + 4 - rest.length * 5 = 4 by omega]
    rfl
  rw [e1] at this
  exact this
end

theorem indexAt_path (g len cap k : Nat) (hk : k < len) (w : World) :
    (Instr.indexAt 84 (.slice (some ⟨g, 0, none⟩) len cap) (.int .i64 k)).run Try.prog w = .ok (.pointer (some ⟨g, k * 5, none⟩)) w := by
  obtain ⟨i, hi, hz0, hz1, hz2⟩ := info_parts Try.info83
  have he : Try.prog.elem 84 = 83 := by simp [Program.elem, Try.underlying84]
  rw [run_indexAt_slice (h := by rw [he]; exact Try.underlying84), if_pos ⟨by omega, by omega⟩, he]
  simp [sizeOf, typeInfo, hi, hz1, Addr.add]
  exact fun h => h.symm

section
variable {w : World} {ops : Array Oper} {rest : List Oper} {o : Oper} {a : Act} {Q : Exit → Act → World → Prop}
/-- 'path = append(path, next)', at the operation: the element lies in a block of its own. -/
theorem wpList_pappend (hgd : o.guard = none) (s x : Operand) (ho : o.op = .call { callee := .builtin .append, args := #[s, x], argTypes := #[84, 84] })
    (g cap : Nat) (p : List PE) (e : PE) (b : Nat) (hs : a.eval s = .slice (some ⟨g, 0, none⟩) p.length cap) (h : PRow w g cap p) (hx : a.eval x = .slice (some ⟨b, 0, none⟩) 1 1) (hy : ∀ f, f < 5 → w.cell? ⟨b, f, none⟩ = (peCells e)[f]?) (hb : p.length + 1 ≤ 1000000000000 + 10)
    (hK : ∀ g' cap' w', PRow w' g' cap' (e :: p) → w.grownBy w' (some g) → (g' = g ∨ g' = w.heap.size) → wpList Try.prog ops Q rest (a.put o.dst (.slice (some ⟨g', 0, none⟩) (p.length + 1) cap')) w') : wpList Try.prog ops Q (o :: rest) a w := by
  refine wpList_plain hgd fun K hKK => ?_
  obtain ⟨i, hi, hz0, hz1, hz2⟩ := info_parts Try.info83
  obtain ⟨v', w', hr, h1, h2, h3, h4⟩ := run_append_own_at (P := Try.prog) w 0 84 o.type 83 i _ 5 40 Try.underlying84 hi hz0 hz1 hz2 rfl (by decide) _ p.length _ h ⟨b, 0, none⟩ 1 1 (peCells e) rfl
      (by
        intro j u hu
        have hj : j < 5 := by
          have := List.getElem?_eq_some_iff.1 hu
          obtain ⟨hj, _⟩ := this
          exact hj
        have := hy j hj
        rw [hu] at this
        rw [← this]
        unfold Addr.add
        split
        · rename_i h0; rw [h0]
        · simp) (by simp [peCells, Value.oneCell']) (by unfold maxLen; omega) (by omega) (Nat.zero_le _)
  rcases h1.2 with ⟨e', _⟩ | ⟨g', cap', cur, hv', r⟩
  · rw [h3] at e'; simp at e'
  · unfold Oper.wp execOp
    simp only [ho, resolve, invoke, builtin, Sem.run_bind, Sem.run_pure, Result.andThen_ok, List.map_toArray, List.map_cons, List.map_nil, hs, hx]
    rw [hr]
    simp only [Result.andThen_ok]
    refine hKK _ _ ?_
    show wpList Try.prog ops Q rest (a.put o.dst v') w'
    subst hv'
    refine hK g' cap' w' h1 h2 ?_
    have : some g' = some g ∨ some g' = some w.heap.size := h4
    rcases this with e' | e'
    · cases e'; exact .inl rfl
    · cases e'; exact .inr rfl
end

/-! ### All of the walk's memory -/
/-- 'local' (block A), 'held' (H), 'receivers' (R), the path (g): four blocks of the call's own; what lay there before is as it was. -/
structure WM (w wr : World) (A H R g cap : Nat) (loc held recvs : List Int) (p : List PE) : Prop where
  lo : IArr wr A loc
  he : IArr wr H held
  re : IArr wr R recvs
  pa : PRow wr g cap p
  ne : A ≠ H ∧ A ≠ R ∧ A ≠ g ∧ H ≠ R ∧ H ≠ g ∧ R ≠ g
  los : w.heap.size ≤ A ∧ w.heap.size ≤ H ∧ w.heap.size ≤ R ∧ w.heap.size ≤ g
  bel : Below w.heap.size w wr

section
variable {w wr w' : World} {A H R g cap : Nat} {loc held recvs : List Int} {p : List PE}
theorem WM.setH (h : WM w wr A H R g cap loc held recvs p) (j : Nat) (x : Int) : WM w (wr.setCell ⟨H, j, none⟩ (.int .i64 x)) A H R g cap loc (held.set j x) recvs p :=
  ⟨h.lo.set_other h.ne.1 _, h.he.set j x, h.re.set_other (fun e => h.ne.2.2.2.1 e.symm) _, h.pa.setCell (fun e => h.ne.2.2.2.2.1 e.symm) _, h.ne, h.los, h.bel.setCell h.los.2.1 _⟩
theorem WM.setR (h : WM w wr A H R g cap loc held recvs p) (j : Nat) (x : Int) : WM w (wr.setCell ⟨R, j, none⟩ (.int .i64 x)) A H R g cap loc held (recvs.set j x) p :=
  ⟨h.lo.set_other h.ne.2.1 _, h.he.set_other h.ne.2.2.2.1 _, h.re.set j x, h.pa.setCell (fun e => h.ne.2.2.2.2.2 e.symm) _, h.ne, h.los, h.bel.setCell h.los.2.2.1 _⟩
theorem WM.bump {e : PE} {rest : List PE} (h : WM w wr A H R g cap loc held recvs (e :: rest)) : WM w (wr.setCell ⟨g, rest.length * 5 + 4, none⟩ (.int .i64 (e.next + 1))) A H R g cap loc held recvs (e.bump :: rest) :=
  ⟨h.lo.set_other h.ne.2.2.1 _, h.he.set_other h.ne.2.2.2.2.1 _, h.re.set_other h.ne.2.2.2.2.2 _, h.pa.bump, h.ne, h.los, h.bel.setCell h.los.2.2.2 _⟩
theorem WM.pop {e : PE} {rest : List PE} (h : WM w wr A H R g cap loc held recvs (e :: rest)) : WM w wr A H R g cap loc held recvs rest :=
  ⟨h.lo, h.he, h.re, h.pa.pop, h.ne, h.los, h.bel⟩
theorem WM.alloc (h : WM w wr A H R g cap loc held recvs p) (o : Obj) : WM w (wr.alloc o) A H R g cap loc held recvs p :=
  ⟨h.lo.alloc o, h.he.alloc o, h.re.alloc o, h.pa.alloc o, h.ne, h.los, h.bel.alloc h.bel.size o⟩
theorem WM.drewN (h : WM w wr A H R g cap loc held recvs p) (d : Nat) : WM w (wr.drewN d) A H R g cap loc held recvs p :=
  ⟨h.lo, h.he, h.re, h.pa, h.ne, h.los, below_drewN h.bel d⟩
/-- A store into a block of none of them. -/
theorem WM.setOther (h : WM w wr A H R g cap loc held recvs p) {a : Addr} (ha : A ≠ a.block ∧ H ≠ a.block ∧ R ≠ a.block ∧ g ≠ a.block) (hlo : w.heap.size ≤ a.block) (u : Value) : WM w (wr.setCell a u) A H R g cap loc held recvs p :=
  ⟨h.lo.set_other ha.1 _, h.he.set_other ha.2.1 _, h.re.set_other ha.2.2.1 _, h.pa.setCell ha.2.2.2 _, h.ne, h.los, h.bel.setCell hlo _⟩
/-- The path has grown, in its own block or in a new one. -/
theorem WM.push {e : PE} {g' cap' : Nat} (h : WM w wr A H R g cap loc held recvs p) (hp : PRow w' g' cap' (e :: p)) (hg : wr.grownBy w' (some g)) (hl : g' = g ∨ g' = wr.heap.size) : WM w w' A H R g' cap' loc held recvs (e :: p) := by
  have kA := hg.block A h.lo.lt (fun e => h.ne.2.2.1 (by cases e; rfl))
  have kH := hg.block H h.he.lt (fun e => h.ne.2.2.2.2.1 (by cases e; rfl))
  have kR := hg.block R h.re.lt (fun e => h.ne.2.2.2.2.2 (by cases e; rfl))
  have lA := h.lo.lt
  have lH := h.he.lt
  have lR := h.re.lt
  have hb := h.bel.size
  have hne := h.ne
  have hlo := h.los
  refine ⟨?_, ?_, ?_, hp, ?_, ?_, h.bel.grown hg hb (fun k hk => by cases hk; exact h.los.2.2.2)⟩
  · unfold IArr Arr; rw [kA]; exact h.lo
  · unfold IArr Arr; rw [kH]; exact h.he
  · unfold IArr Arr; rw [kR]; exact h.re
  · rcases hl with rfl | rfl
    · exact hne
    · omega
  · rcases hl with rfl | rfl
    · exact hlo
    · omega
end
end Go.Proofs.Qxb6603214a
