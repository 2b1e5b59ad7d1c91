import Derived.Test.Qxb6603214aSClone
import Derived.Test.Qxb6603214aWork
namespace Go.Proofs.Qxb6603214a
open Go.RowKit Go.Maps
set_option linter.unusedVariables false

/-- The memory of lamportTimes: the times (block G), 'next' (Nx), the map 'waiting' (Mb), 'ready' (gr), the waiting lists: each in a block of its own, none older than the call. -/
structure LMem (w wr : World) (G Nx capN Mb gr capr sz : Nat) (f : Lit → Value) (t nx rd : List Int) (W : Int → List Int) : Prop where
  lam : IArr wr G t
  nxt : IRow wr Nx capN nx
  rdy : IRow wr gr capr rd
  map : VMap wr 3 Mb (.slice none 0 0) sz f
  waits : ∀ s, IOwn wr (f (.int .i64 s)) (W s)
  hb : ∀ s b, (f (.int .i64 s)).ownBlock = some b → w.heap.size ≤ b ∧ b ≠ G ∧ b ≠ Nx ∧ b ≠ Mb ∧ b ≠ gr
  inj : ∀ s s' b, (f (.int .i64 s)).ownBlock = some b → (f (.int .i64 s')).ownBlock = some b → s = s'
  los : w.heap.size ≤ G ∧ w.heap.size ≤ Nx ∧ w.heap.size ≤ Mb ∧ w.heap.size ≤ gr
  ne : G ≠ Nx ∧ G ≠ Mb ∧ Nx ≠ Mb ∧ gr ≠ G ∧ gr ≠ Nx ∧ gr ≠ Mb
  below : Below w.heap.size w wr

section
variable {w wr : World} {G Nx capN Mb gr capr sz : Nat} {f : Lit → Value} {t nx rd : List Int} {W : Int → List Int}

theorem LMem.setT (h : LMem w wr G Nx capN Mb gr capr sz f t nx rd W) (j : Nat) (x : Int) : LMem w (wr.setCell ⟨G, j, none⟩ (.int .i64 x)) G Nx capN Mb gr capr sz f (t.set j x) nx rd W where
  lam := h.lam.set j x
  nxt := h.nxt.setCell (a := ⟨G, j, none⟩) (fun e => h.ne.1 e.symm) _
  rdy := h.rdy.setCell (a := ⟨G, j, none⟩) h.ne.2.2.2.1 _
  map := h.map.setCell (a := ⟨G, j, none⟩) (fun e => h.ne.2.1 e.symm) _
  waits s := (h.waits s).setCell (a := ⟨G, j, none⟩) (fun e => (h.hb s G e).2.1 rfl) _
  hb := h.hb
  inj := h.inj
  los := h.los
  ne := h.ne
  below := h.below.setCell h.los.1 _

theorem LMem.setN (h : LMem w wr G Nx capN Mb gr capr sz f t nx rd W) (j : Nat) (x : Int) (hj : j < nx.length) : LMem w (wr.setCell ⟨Nx, j, none⟩ (.int .i64 x)) G Nx capN Mb gr capr sz f t (nx.set j x) rd W where
  lam := h.lam.set_other (a := ⟨Nx, j, none⟩) h.ne.1 _
  nxt := h.nxt.set j x hj
  rdy := h.rdy.setCell (a := ⟨Nx, j, none⟩) h.ne.2.2.2.2.1 _
  map := h.map.setCell (a := ⟨Nx, j, none⟩) (fun e => h.ne.2.2.1 e.symm) _
  waits s := (h.waits s).setCell (a := ⟨Nx, j, none⟩) (fun e => (h.hb s Nx e).2.2.1 rfl) _
  hb := h.hb
  inj := h.inj
  los := h.los
  ne := h.ne
  below := h.below.setCell h.los.2.1 _

theorem LMem.drewN (h : LMem w wr G Nx capN Mb gr capr sz f t nx rd W) (q : Nat) : LMem w (wr.drewN q) G Nx capN Mb gr capr sz f t nx rd W where
  lam := h.lam
  nxt := h.nxt
  rdy := h.rdy
  map := h.map
  waits := h.waits
  hb := h.hb
  inj := h.inj
  los := h.los
  ne := h.ne
  below := below_drewN h.below q

theorem LMem.drew (h : LMem w wr G Nx capN Mb gr capr sz f t nx rd W) : LMem w wr.drew G Nx capN Mb gr capr sz f t nx rd W := h.drewN 1

theorem LMem.alloc (h : LMem w wr G Nx capN Mb gr capr sz f t nx rd W) (o : Obj) : LMem w (wr.alloc o) G Nx capN Mb gr capr sz f t nx rd W where
  lam := h.lam.alloc o
  nxt := h.nxt.alloc o
  rdy := h.rdy.alloc o
  map := h.map.alloc o
  waits s := (h.waits s).alloc o
  hb := h.hb
  inj := h.inj
  los := h.los
  ne := h.ne
  below := h.below.alloc h.below.size o

/-- 'ready = append(ready, ..)'. -/
theorem LMem.more {w1 : World} {gr' capr' : Nat} {ys : List Int} (h : LMem w wr G Nx capN Mb gr capr sz f t nx rd W) (hrow : IRow w1 gr' capr' (rd ++ ys)) (hg : wr.grownBy w1 (some gr)) (hl : gr' = gr ∨ gr' = wr.heap.size) :
    LMem w w1 G Nx capN Mb gr' capr' sz f t nx (rd ++ ys) W where
  lam := by
    have := h.lam
    unfold IArr Arr at this ⊢
    rw [hg.block G h.lam.lt (by have := h.ne.2.2.2.1; simp; omega)]
    exact this
  nxt := h.nxt.kept hg (by have := h.ne.2.2.2.2.1; simp; omega)
  rdy := hrow
  map := h.map.kept hg (by have := h.ne.2.2.2.2.2; simp; omega)
  waits s := (h.waits s).kept hg (by
    cases e : (f (.int .i64 s)).ownBlock with
    | none => exact .inl rfl
    | some b => right; have := (h.hb s b e).2.2.2.2; simpa using this)
  hb s b e := by
    obtain ⟨a1, a2, a3, a4, a5⟩ := h.hb s b e
    refine ⟨a1, a2, a3, a4, ?_⟩
    rcases hl with hl | hl
    · rw [hl]; exact a5
    · have := (h.waits s).lt b e; omega
  inj := h.inj
  los := by
    obtain ⟨a1, a2, a3, a4⟩ := h.los
    refine ⟨a1, a2, a3, ?_⟩
    rcases hl with hl | hl
    · omega
    · have := h.below.size; omega
  ne := by
    obtain ⟨a1, a2, a3, a4, a5, a6⟩ := h.ne
    have b1 := h.lam.lt
    have b2 := h.nxt.lt
    have b3 := h.map.lt
    refine ⟨a1, a2, a3, ?_, ?_, ?_⟩ <;> (rcases hl with hl | hl <;> omega)
  below := h.below.grown hg h.below.size (fun k hk => by cases hk; exact h.los.2.2.2)

/-- 'ready = ready[:len(ready)-1]'. -/
theorem LMem.less {x : Int} (h : LMem w wr G Nx capN Mb gr capr sz f t nx (rd ++ [x]) W) : LMem w wr G Nx capN Mb gr capr sz f t nx rd W where
  lam := h.lam
  nxt := h.nxt
  rdy := h.rdy.pop
  map := h.map
  waits := h.waits
  hb := h.hb
  inj := h.inj
  los := h.los
  ne := h.ne
  below := h.below

/-- 'delete(waiting, i)'. -/
theorem LMem.del {w1 : World} {sz' : Nat} {f1 : Lit → Value} {i : Int} {W' : Int → List Int} (h : LMem w wr G Nx capN Mb gr capr sz f t nx rd W) (hm : VMap w1 3 Mb (.slice none 0 0) sz' f1) (hu : Upd f f1 (.int .i64 i) (.slice none 0 0)) (hg : wr.grownBy w1 (some Mb))
    (hW : W' i = []) (hW2 : ∀ r, r ≠ i → W' r = W r) : LMem w w1 G Nx capN Mb gr capr sz' f1 t nx rd W' where
  lam := by
    have := h.lam
    unfold IArr Arr at this ⊢
    rw [hg.block G h.lam.lt (by have := h.ne.2.1; simp; omega)]
    exact this
  nxt := h.nxt.kept hg (by have := h.ne.2.2.1; simp; omega)
  rdy := h.rdy.kept hg (by have := h.ne.2.2.2.2.2; simp; omega)
  map := hm
  waits s := by
    by_cases e : s = i
    · subst e; rw [hu.same, hW]; exact IOwn.nil _
    · rw [hu.other _ (by simpa using e), hW2 s e]
      exact (h.waits s).kept hg (by
        cases e : (f (.int .i64 s)).ownBlock with
        | none => exact .inl rfl
        | some b => right; have := (h.hb s b e).2.2.2.1; simpa using this)
  hb s b hb := by
    by_cases e : s = i
    · subst e; rw [hu.same] at hb; simp [Value.ownBlock] at hb
    · rw [hu.other _ (by simpa using e)] at hb; exact h.hb s b hb
  inj s s' b h1 h2 := by
    by_cases e : s = i
    · subst e; rw [hu.same] at h1; simp [Value.ownBlock] at h1
    · by_cases e' : s' = i
      · subst e'; rw [hu.same] at h2; simp [Value.ownBlock] at h2
      · rw [hu.other _ (by simpa using e)] at h1
        rw [hu.other _ (by simpa using e')] at h2
        exact h.inj s s' b h1 h2
  los := h.los
  ne := h.ne
  below := h.below.grown hg h.below.size (fun k hk => by cases hk; exact h.los.2.2.1)

/-- 'waiting[s] = append(waiting[s], p)', its first half: the append. -/
theorem LMem.wait1 {w1 : World} {g cap : Nat} {s p : Int} (h : LMem w wr G Nx capN Mb gr capr sz f t nx rd W) (hrow : IRow w1 g cap (W s ++ [p])) (hg : wr.grownBy w1 (f (.int .i64 s)).ownBlock) (hl : (f (.int .i64 s)).ownBlock = some g ∨ g = wr.heap.size) :
    VMap w1 3 Mb (.slice none 0 0) sz f :=
  h.map.kept hg (fun e => (h.hb s Mb e.symm).2.2.2.1 rfl)

theorem LMem.wait {w1 w2 : World} {g cap sz' : Nat} {f1 : Lit → Value} {s p : Int} {W' : Int → List Int} (h : LMem w wr G Nx capN Mb gr capr sz f t nx rd W) (hrow : IRow w1 g cap (W s ++ [p])) (hg : wr.grownBy w1 (f (.int .i64 s)).ownBlock) (hl : (f (.int .i64 s)).ownBlock = some g ∨ g = wr.heap.size)
    (hm : VMap w2 3 Mb (.slice none 0 0) sz' f1) (hu : Upd f f1 (.int .i64 s) (.slice (some ⟨g, 0, none⟩) ((W s).length + 1) cap)) (hg2 : w1.grownBy w2 (some Mb))
    (hW : W' s = W s ++ [p]) (hW2 : ∀ r, r ≠ s → W' r = W r) : LMem w w2 G Nx capN Mb gr capr sz' f1 t nx rd W' := by
  have hgG : ∀ b, b < wr.heap.size → (f (.int .i64 s)).ownBlock ≠ some b → b ≠ Mb → w2.heap[b]? = wr.heap[b]? := fun b hb hne hne2 =>
    (hg2.block b (Nat.lt_of_lt_of_le hb hg.size) (by simpa using hne2)).trans (hg.block b hb (fun e => hne e.symm))
  have hgb : ∀ b, b = G ∨ b = Nx ∨ b = Mb ∨ b = gr → b ≠ g := by
    intro b hb
    rcases hl with hl | hl
    · obtain ⟨a1, a2, a3, a4, a5⟩ := h.hb s g hl
      rcases hb with rfl | rfl | rfl | rfl <;> omega
    · have b1 := h.lam.lt
      have b2 := h.nxt.lt
      have b3 := h.map.lt
      have b4 := h.rdy.lt
      rcases hb with rfl | rfl | rfl | rfl <;> omega
  have hgo : ∀ r b, r ≠ s → (f (.int .i64 r)).ownBlock = some b → b ≠ g := by
    intro r b hr hb e
    subst e
    rcases hl with hl | hl
    · exact hr (h.inj r s b hb hl)
    · have := (h.waits r).lt b hb; omega
  exact {
    lam := by
      have := h.lam
      unfold IArr Arr at this ⊢
      rw [hgG G h.lam.lt (fun e => (h.hb s G e).2.1 rfl) h.ne.2.1]
      exact this
    nxt := (h.nxt.kept hg (fun e => (h.hb s Nx e.symm).2.2.1 rfl)).kept hg2 (by simpa using h.ne.2.2.1)
    rdy := (h.rdy.kept hg (fun e => (h.hb s gr e.symm).2.2.2.2 rfl)).kept hg2 (by simpa using h.ne.2.2.2.2.2)
    map := hm
    waits := fun r => by
      by_cases e : r = s
      · subst e
        rw [hu.same, hW]
        have := hrow.kept hg2 (by have := hgb Mb (by simp); simpa using fun e => this e.symm)
        unfold IRow at this
        simpa using this
      · rw [hu.other _ (by simpa using e), hW2 r e]
        refine ((h.waits r).kept hg ?_).kept hg2 ?_
        · cases e2 : (f (.int .i64 r)).ownBlock with
          | none => exact .inl rfl
          | some b => right; intro e3; exact e (h.inj r s b e2 e3.symm)
        · cases e2 : (f (.int .i64 r)).ownBlock with
          | none => exact .inl rfl
          | some b => right; have := (h.hb r b e2).2.2.2.1; simpa using this
    hb := fun r b hb => by
      by_cases e : r = s
      · subst e
        rw [hu.same] at hb
        simp [Value.ownBlock] at hb
        subst hb
        have n1 := hgb G (by simp)
        have n2 := hgb Nx (by simp)
        have n3 := hgb Mb (by simp)
        have n4 := hgb gr (by simp)
        refine ⟨?_, by omega, by omega, by omega, by omega⟩
        rcases hl with hl | hl
        · exact (h.hb r g hl).1
        · have := h.below.size; omega
      · rw [hu.other _ (by simpa using e)] at hb; exact h.hb r b hb
    inj := fun r r' b h1 h2 => by
      by_cases e : r = s
      · subst e
        by_cases e' : r' = r
        · exact e'.symm
        · rw [hu.same] at h1
          rw [hu.other _ (by simpa using e')] at h2
          simp [Value.ownBlock] at h1
          exact absurd h1.symm (hgo r' b e' h2)
      · by_cases e' : r' = s
        · subst e'
          rw [hu.same] at h2
          rw [hu.other _ (by simpa using e)] at h1
          simp [Value.ownBlock] at h2
          exact absurd h2.symm (hgo r b e h1)
        · rw [hu.other _ (by simpa using e)] at h1
          rw [hu.other _ (by simpa using e')] at h2
          exact h.inj r r' b h1 h2
    los := h.los
    ne := h.ne
    below := (h.below.grown hg h.below.size (fun k hk => (h.hb s k hk).1)).grown hg2 (Nat.le_trans h.below.size hg.size) (fun k hk => by cases hk; exact h.los.2.2.1) }
end
end Go.Proofs.Qxb6603214a
