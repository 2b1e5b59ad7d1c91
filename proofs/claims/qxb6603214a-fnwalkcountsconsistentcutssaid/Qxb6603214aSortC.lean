import Derived.Test.Qxb6603214aShelf
import Derived.Test.Qxb6603214aOwn
import Derived.Sort.OwnSortedInts
import Derived.Lib.OwnBridge
namespace Go.Proofs.Qxb6603214a
open Go.RowKit Go.Sort
set_option linter.unusedVariables false

/-- Sorted, each once. -/
def uniq (zs : List Int) : List Int := Lib.compact (zs.mergeSort fun x y => decide (x ≤ y))

theorem compactUpTo_spec (d : Array Int) (hs : ∀ i j, i ≤ j → j < d.size → d[i]! ≤ d[j]!) : ∀ m, m ≤ d.size →
    (Lib.compactUpTo d m).Pairwise (· < ·) ∧ (∀ x, x ∈ Lib.compactUpTo d m ↔ ∃ j, j < m ∧ d[j]! = x) := by
  intro m
  induction m with
  | zero => intro _; simp [Lib.compactUpTo]
  | succ m ih =>
    intro hm
    obtain ⟨h1, h2⟩ := ih (by omega)
    rw [Lib.compactUpTo_succ]
    by_cases hk : Lib.keeps d m = true
    · rw [if_pos hk]
      refine ⟨?_, fun x => ?_⟩
      · rw [List.pairwise_append]
        refine ⟨h1, by simp, fun a ha b hb => ?_⟩
        simp at hb
        subst hb
        obtain ⟨j, hj, rfl⟩ := (h2 a).1 ha
        have hle := hs j m (by omega) (by omega)
        have hle2 := hs j (m - 1) (by omega) (by omega)
        have hne : d[m]! ≠ d[m - 1]! := by
          simp [Lib.keeps] at hk
          rcases hk with hk | hk
          · omega
          · exact hk
        have hle3 := hs (m - 1) m (by omega) (by omega)
        omega
      · rw [List.mem_append, h2]
        simp only [List.mem_singleton]
        constructor
        · rintro (⟨j, hj, rfl⟩ | rfl)
          · exact ⟨j, by omega, rfl⟩
          · exact ⟨m, by omega, rfl⟩
        · rintro ⟨j, hj, rfl⟩
          by_cases e : j = m
          · subst e; right; rfl
          · left; exact ⟨j, by omega, rfl⟩
    · rw [if_neg hk, List.append_nil]
      refine ⟨h1, fun x => ?_⟩
      rw [h2]
      have heq : 0 < m ∧ d[m]! = d[m - 1]! := by
        simp [Lib.keeps] at hk
        omega
      constructor
      · rintro ⟨j, hj, rfl⟩; exact ⟨j, by omega, rfl⟩
      · rintro ⟨j, hj, rfl⟩
        by_cases e : j = m
        · subst e; exact ⟨j - 1, by omega, heq.2.symm⟩
        · exact ⟨j, by omega, rfl⟩

theorem uniq_spec (zs : List Int) : (uniq zs).Pairwise (· < ·) ∧ ∀ x, x ∈ uniq zs ↔ x ∈ zs := by
  unfold uniq Lib.compact
  have hsort : (zs.mergeSort fun x y => decide (x ≤ y)).Pairwise (fun x y => decide (x ≤ y) = true) := List.pairwise_mergeSort (fun a b c h1 h2 => by simp at *; omega) (fun a b => by simp; omega) zs
  have hmem : ∀ x, x ∈ (zs.mergeSort fun x y => decide (x ≤ y)) ↔ x ∈ zs := fun x => List.mem_mergeSort
  generalize (zs.mergeSort fun x y => decide (x ≤ y)) = ts at hsort hmem
  have := compactUpTo_spec ts.toArray (fun i j hij hj => by
    simp at hj
    by_cases e : i = j
    · subst e; omega
    · have := List.pairwise_iff_getElem.1 hsort i j (by omega) hj (by omega)
      simp at this
      simpa [hj, show i < ts.length by omega] using this) ts.length (by simp)
  refine ⟨this.1, fun x => ?_⟩
  rw [this.2, ← hmem]
  constructor
  · rintro ⟨j, hj, rfl⟩
    simp [hj]
  · intro hx
    obtain ⟨j, hj, rfl⟩ := List.mem_iff_getElem.1 hx
    exact ⟨j, hj, by simp [hj]⟩

theorem uniq_length_le (zs : List Int) : (uniq zs).length ≤ zs.length := by
  unfold uniq Lib.compact Lib.compactUpTo
  rw [List.length_map]
  refine Nat.le_trans (List.length_filter_le _ _) ?_
  simp

theorem IRow.block {w : World} {g cap : Nat} {zs : List Int} (h : IRow w g cap zs) : ∃ cur, w.heap[g]? = some (.cells cur 3 (0, 0)) ∧ cur.size = cap * 1 ∧ cur.toList.take zs.length = zs.map (Value.int .i64) := by
  rcases h.2 with ⟨hv, _⟩ | ⟨g', cap', cur, hv, _, hh, _, _, hs, ht⟩
  · cases hv
  · simp at hv
    obtain ⟨rfl, rfl⟩ := hv
    exact ⟨cur, hh, hs, by simpa using ht⟩

/-- What slices.Sort leaves. -/
def Sorted (v : Value) (zs : List Int) (w : World) (e : Ending) (w' : World) : Prop := e = .returned (.tuple #[]) ∧ IOwn w' v (zs.mergeSort fun x y => decide (x ≤ y)) ∧ w.grownBy w' v.ownBlock

theorem sort_own (v : Value) (zs : List Int) (w : World) (h : IOwn w v zs) (hl : zs.length ≤ 10000000) : Calls Try.prog 43 #[v] w (Sorted v zs w) := by
  rcases h.cases with ⟨rfl, rfl⟩ | ⟨g, cap, rfl, hr⟩
  · refine (Try.slices_Sort_int_none none 0 w).mono ?_
    rintro e w' ⟨rfl, rfl⟩
    exact ⟨rfl, by simpa using h, World.grownBy.refl _ _⟩
  · obtain ⟨cur, hb, hs, ht⟩ := hr.block
    refine (Try.slices_Sort_int g 0 cap zs w (holds_of_blockI hb ht) hr.lt (by omega)).mono ?_
    rintro e w' ⟨rfl, n, os, rfl⟩
    have hlen : (zs.mergeSort fun x y => decide (x ≤ y)).length = zs.length := List.length_mergeSort zs
    refine ⟨rfl, ?_, grownBy_sortedI _⟩
    have := ownsRow_sortedI (n := n) (os := os) (base := 0) hlen (Nat.zero_le _) hb hr.room.1 hr.room.2 hs
    unfold IOwn
    rw [hlen]
    exact this

/-- What slices.Compact leaves. -/
def Compacted (v : Value) (zs : List Int) (w : World) (e : Ending) (w' : World) : Prop := ∃ a c, e = .returned (.slice a (Lib.compact zs).length c) ∧ IOwn w' (.slice a (Lib.compact zs).length c) (Lib.compact zs) ∧ w.grownBy w' v.ownBlock ∧ (Value.slice a (Lib.compact zs).length c).ownBlock = v.ownBlock

theorem compact_own (v : Value) (zs : List Int) (w : World) (h : IOwn w v zs) (hl : zs.length ≤ 10000000) : Calls Try.prog 44 #[v] w (Compacted v zs w) := by
  rcases h.cases with ⟨rfl, rfl⟩ | ⟨g, cap, rfl, hr⟩
  · refine (Try.slices_Compact_int_empty none 0 w).mono ?_
    rintro e w' ⟨rfl, rfl⟩
    exact ⟨none, 0, rfl, IOwn.nil _, World.grownBy.refl _ _, rfl⟩
  · obtain ⟨cur, hb, hs, ht⟩ := hr.block
    refine (Try.slices_Compact_int g 0 cap zs w (holds_of_blockI hb ht) (by omega) hr.room.1).mono ?_
    rintro e w' ⟨rfl, q, rfl⟩
    have hle : (Lib.compact zs).length ≤ zs.length := by
      unfold Lib.compact Lib.compactUpTo
      rw [List.length_map]
      refine Nat.le_trans (List.length_filter_le _ _) ?_
      simp
    refine ⟨_, cap, rfl, ?_, ?_, rfl⟩
    · have := Lib.ownsRow_putRow (q := q) (k := (Lib.compact zs).length) (ys := Lib.compact zs ++ List.replicate (zs.length - (Lib.compact zs).length) 0) hr (by simp; omega) hle
      rw [List.take_left] at this
      exact this
    · have := grownBy_sortedI (w := w) (g := g) (n := q) (os := #[]) (Lib.compact zs ++ List.replicate (zs.length - (Lib.compact zs).length) 0).toArray
      rw [grow_empty] at this
      exact this
end Go.Proofs.Qxb6603214a
