import Derived.Test.Qxb6603214aRows
import Derived.WalkKit
import Derived.WalkSpells
import Derived.WalkLawsBesides
namespace Go.Proofs.Qxb6603214a
open Go.RowKit

/-! ### Blocks of the call's own, told whole -/
/-- Block 'g' is a row of cells of type 'e' that holds just 'xs'. -/
def Arr (w : World) (g : Nat) (e : TypeId) (xs : List Value) : Prop := w.heap[g]? = some (.cells xs.toArray e (0, 0))

theorem Arr.lt {w : World} {g : Nat} {e : TypeId} {xs : List Value} (h : Arr w g e xs) : g < w.heap.size :=
  (Array.getElem?_eq_some_iff.1 h).1
theorem Arr.cell {w : World} {g : Nat} {e : TypeId} {xs : List Value} (h : Arr w g e xs) (j : Nat) : w.cell? ⟨g, j, none⟩ = xs[j]? := by
  simp [World.cell?, show w.heap[g]? = _ from h]
theorem Arr.frozen {w : World} {g : Nat} {e : TypeId} {xs : List Value} (h : Arr w g e xs) (j : Nat) : w.frozen? ⟨g, j, none⟩ = false := by
  simp [World.frozen?, show w.heap[g]? = _ from h]
theorem Arr.set {w : World} {g : Nat} {e : TypeId} {xs : List Value} (h : Arr w g e xs) (j : Nat) (v : Value) : Arr (w.setCell ⟨g, j, none⟩ v) g e (xs.set j v) := by
  unfold Arr World.setCell
  simp only [Array.getElem?_modify, if_pos, show w.heap[g]? = _ from h]
  simp
theorem Arr.set_other {w : World} {g : Nat} {e : TypeId} {xs : List Value} (h : Arr w g e xs) {a : Addr} (ha : g ≠ a.block) (v : Value) : Arr (w.setCell a v) g e xs := by
  unfold Arr
  rw [Below.heap_setCell _ _ _ _ ha]
  exact h
theorem Arr.alloc {w : World} {g : Nat} {e : TypeId} {xs : List Value} (h : Arr w g e xs) (o : Obj) : Arr (w.alloc o) g e xs := by
  unfold Arr
  rw [Below.heap_alloc _ _ _ h.lt]
  exact h
theorem Arr.new (w : World) (c : Array Value) (e : TypeId) : Arr (w.alloc (.cells c e)) w.heap.size e c.toList := by
  show (w.heap.push (.cells c e))[w.heap.size]? = _
  simp
theorem Arr.drew {w : World} {g : Nat} {e : TypeId} {xs : List Value} (h : Arr w g e xs) : Arr w.drew g e xs := h
theorem Arr.below {w w' : World} {B g : Nat} {e : TypeId} {xs : List Value} (h : Arr w g e xs) (hb : Below B w w') (hg : g < B) : Arr w' g e xs := by
  unfold Arr
  rw [hb.block g hg]
  exact h

/-- A row of numbers. -/
def IArr (w : World) (g : Nat) (zs : List Int) : Prop := Arr w g 3 (zs.map (Value.int .i64))
theorem IArr.cell {w : World} {g : Nat} {zs : List Int} (h : IArr w g zs) (j : Nat) (hj : j < zs.length) : w.cell? ⟨g, j, none⟩ = some (.int .i64 (zs.getD j 0)) := by
  rw [Arr.cell h j]; simp [hj]
theorem IArr.frozen {w : World} {g : Nat} {zs : List Int} (h : IArr w g zs) (j : Nat) : w.frozen? ⟨g, j, none⟩ = false := Arr.frozen h j
theorem IArr.lt {w : World} {g : Nat} {zs : List Int} (h : IArr w g zs) : g < w.heap.size := Arr.lt h
theorem IArr.set {w : World} {g : Nat} {zs : List Int} (h : IArr w g zs) (j : Nat) (v : Int) : IArr (w.setCell ⟨g, j, none⟩ (.int .i64 v)) g (zs.set j v) := by
  unfold IArr; rw [List.map_set]; exact Arr.set h j _
theorem IArr.set_other {w : World} {g : Nat} {zs : List Int} (h : IArr w g zs) {a : Addr} (ha : g ≠ a.block) (v : Value) : IArr (w.setCell a v) g zs := Arr.set_other h ha v
theorem IArr.alloc {w : World} {g : Nat} {zs : List Int} (h : IArr w g zs) (o : Obj) : IArr (w.alloc o) g zs := Arr.alloc h o
theorem IArr.below {w w' : World} {B g : Nat} {zs : List Int} (h : IArr w g zs) (hb : Below B w w') (hg : g < B) : IArr w' g zs := Arr.below h hb hg

/-! ### 'make' -/
theorem madeCells_rep (z : Value) (n : Nat) : madeCells #[z] n = Array.replicate n z := by
  apply Array.toList_inj.1
  rw [toList_madeCells_one]; simp

theorem Try.info3 : (Try.prog.info? 3).map (fun i => (i.zero, i.size, i.bytes)) = some (some (.int .i64 0), 1, 8) := by kernel_rfl
theorem Try.info9 : (Try.prog.info? 9).map (fun i => (i.zero, i.size, i.bytes)) = some (some (.string ByteArray.empty), 1, 16) := by kernel_rfl
theorem Try.info4 : (Try.prog.info? 4).map (fun i => (i.zero, i.size, i.bytes)) = some (some (.bool false), 1, 1) := by kernel_rfl

/-- 'make([]T, n)', one cell an element. -/
theorem make_one {t e : TypeId} {z : Value} {bytes : Nat} (ht : Try.prog.underlying t = some (.slice e)) (hinfo : (Try.prog.info? e).map (fun i => (i.zero, i.size, i.bytes)) = some (some z, 1, bytes))
    (hz : z.cells = #[z]) (n : Nat) (hb : bytes * n ≤ 281474976710656) (h63 : n ≤ 9223372036854775807) (w : World) :
    (Instr.makeSlice t (.int .i64 n) (.int .i64 n)).run Try.prog w = .ok (.slice (some ⟨w.heap.size, 0, none⟩) n n) (w.alloc (.cells (Array.replicate n z) e)) := by
  obtain ⟨i, hi, hz0, hz1, hz2⟩ := info_parts hinfo
  have hb' : (i.bytes : Int) * (n : Int) ≤ 281474976710656 := by
    rw [hz2]
    have h : ((bytes * n : Nat) : Int) ≤ 281474976710656 := by omega
    rwa [Int.natCast_mul] at h
  have := run_make (P := Try.prog) w t e i z ht hi hz0 .i64 .i64 n n (by omega) (by omega) hb' (by omega)
  rw [this]
  simp [hz1, hz, madeCells_rep]

theorem make_ints (n : Nat) (hn : n ≤ 10000000) (w : World) :
    (Instr.makeSlice 23 (.int .i64 n) (.int .i64 n)).run Try.prog w = .ok (.slice (some ⟨w.heap.size, 0, none⟩) n n) (w.alloc (.cells (Array.replicate n (.int .i64 0)) 3)) :=
  make_one Try.underlying23 Try.info3 rfl n (by omega) (by omega) w
theorem make_strings (n : Nat) (hn : n ≤ 10000000) (w : World) :
    (Instr.makeSlice 22 (.int .i64 n) (.int .i64 n)).run Try.prog w = .ok (.slice (some ⟨w.heap.size, 0, none⟩) n n) (w.alloc (.cells (Array.replicate n (.string ByteArray.empty)) 9)) :=
  make_one Try.underlying22 Try.info9 rfl n (by omega) (by omega) w
theorem make_bools (n : Nat) (hn : n ≤ 10000000) (w : World) :
    (Instr.makeSlice 69 (.int .i64 n) (.int .i64 n)).run Try.prog w = .ok (.slice (some ⟨w.heap.size, 0, none⟩) n n) (w.alloc (.cells (Array.replicate n (.bool false)) 4)) :=
  make_one Try.underlying69 Try.info4 rfl n (by omega) (by omega) w
theorem IArr.made (w : World) (n : Nat) : IArr (w.alloc (.cells (Array.replicate n (.int .i64 0)) 3)) w.heap.size (List.replicate n 0) := by
  have := Arr.new w (Array.replicate n (.int .i64 0)) 3
  unfold IArr
  simpa using this

/-! ### A slice of numbers, wherever it lies -/
/-- Behind the address 'a' lie the numbers 'zs' (no number: whatever the address). -/
def Ints (w : World) (a : Option Addr) (zs : List Int) : Prop :=
  ∀ j, j < zs.length → ∃ b off, a = some ⟨b, off, none⟩ ∧ w.cell? ⟨b, off + j, none⟩ = some (.int .i64 (zs.getD j 0))

theorem indexAt_one {t e : TypeId} {z : Value} {bytes : Nat} (ht : Try.prog.underlying t = some (.slice e)) (hinfo : (Try.prog.info? e).map (fun i => (i.zero, i.size, i.bytes)) = some (some z, 1, bytes))
    (b off len cap k : Nat) (hk : k < len) (w : World) :
    (Instr.indexAt t (.slice (some ⟨b, off, none⟩) len cap) (.int .i64 k)).run Try.prog w = .ok (.pointer (some ⟨b, off + k, none⟩)) w := by
  obtain ⟨i, hi, hz0, hz1, hz2⟩ := info_parts hinfo
  have he : Try.prog.elem t = e := by simp [Program.elem, ht]
  rw [run_indexAt_slice (h := by rw [he]; exact ht), if_pos ⟨by omega, by omega⟩, he]
  simp [sizeOf, typeInfo, hi, hz1, Addr.add]

theorem ints_open {w : World} {a : Option Addr} {zs : List Int} (h : Ints w a zs) :
    ∃ b off, (∀ (c : Nat) (k : Nat) (w' : World), k < zs.length → (Instr.indexAt 23 (.slice a zs.length c) (.int .i64 k)).run Try.prog w' = .ok (.pointer (some ⟨b, off + k, none⟩)) w') ∧
      (∀ j, j < zs.length → w.cell? ⟨b, off + j, none⟩ = some (.int .i64 (zs.getD j 0))) := by
  by_cases hz : zs.length = 0
  · exact ⟨0, 0, fun c k w' hk => by omega, fun j hj => by omega⟩
  · obtain ⟨b, off, ha, _⟩ := h 0 (by omega)
    refine ⟨b, off, fun c k w' hk => ?_, fun j hj => ?_⟩
    · rw [ha]
      exact indexAt_one Try.underlying23 Try.info3 b off _ c k hk w'
    · obtain ⟨b', off', ha', hc⟩ := h j hj
      rw [ha] at ha'
      simp at ha'
      obtain ⟨rfl, rfl⟩ := ha'
      exact hc
theorem Ints.nil (w : World) (a : Option Addr) : Ints w a [] := fun j hj => by simp at hj
theorem Ints.below {w w' : World} {B : Nat} {a : Option Addr} {zs : List Int} (h : Ints w a zs) (hb : Below B w w') (hB : w.heap.size ≤ B) : Ints w' a zs := by
  intro j hj
  obtain ⟨b, off, ha, hc⟩ := h j hj
  exact ⟨b, off, ha, (hb.cell (p := ⟨b, off + j, none⟩) (Nat.lt_of_lt_of_le (World.block_lt_of_cell? w _ hc) hB)).trans hc⟩
theorem IArr.ints {w : World} {g : Nat} {zs : List Int} (h : IArr w g zs) : Ints w (some ⟨g, 0, none⟩) zs := by
  intro j hj
  exact ⟨g, 0, rfl, by simpa using h.cell j hj⟩
theorem Ints.alloc {w : World} {a : Option Addr} {zs : List Int} (h : Ints w a zs) (o : Obj) : Ints (w.alloc o) a zs :=
  h.below ((Below.refl w.heap.size w).alloc (Nat.le_refl _) o) (Nat.le_refl _)

/-! ### Slices of strings -/
def Strs (w : World) (a : Option Addr) (ss : List ByteArray) : Prop :=
  (∀ j, j < ss.length → ∃ b off, a = some ⟨b, off, none⟩ ∧ w.cell? ⟨b, off + j, none⟩ = some (.string (ss.getD j ByteArray.empty)))

theorem strs_open {w : World} {a : Option Addr} {zs : List ByteArray} (h : Strs w a zs) :
    ∃ b off, (∀ (c : Nat) (k : Nat) (w' : World), k < zs.length → (Instr.indexAt 22 (.slice a zs.length c) (.int .i64 k)).run Try.prog w' = .ok (.pointer (some ⟨b, off + k, none⟩)) w') ∧
      (∀ j, j < zs.length → w.cell? ⟨b, off + j, none⟩ = some (.string (zs.getD j ByteArray.empty))) := by
  by_cases hz : zs.length = 0
  · exact ⟨0, 0, fun c k w' hk => by omega, fun j hj => by omega⟩
  · obtain ⟨b, off, ha, _⟩ := h 0 (by omega)
    refine ⟨b, off, fun c k w' hk => ?_, fun j hj => ?_⟩
    · rw [ha]
      exact indexAt_one Try.underlying22 Try.info9 b off _ c k hk w'
    · obtain ⟨b', off', ha', hc⟩ := h j hj
      rw [ha] at ha'
      simp at ha'
      obtain ⟨rfl, rfl⟩ := ha'
      exact hc
theorem Strs.below {w w' : World} {B : Nat} {a : Option Addr} {zs : List ByteArray} (h : Strs w a zs) (hb : Below B w w') (hB : w.heap.size ≤ B) : Strs w' a zs := by
  intro j hj
  obtain ⟨b, off, ha, hc⟩ := h j hj
  exact ⟨b, off, ha, (hb.cell (p := ⟨b, off + j, none⟩) (Nat.lt_of_lt_of_le (World.block_lt_of_cell? w _ hc) hB)).trans hc⟩

end Go.Proofs.Qxb6603214a
