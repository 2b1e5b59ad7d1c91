import Derived.Test.Qxb6604382aRows
import Derived.WalkKit
import Derived.WalkSpells
import Derived.WalkLawsBesides
namespace Go.Proofs.Qxb6604382a
open Go.RowKit

/-! ### Blocks of the call's own, told whole -/
/-- Block 'g' is a row of cells of type 'e' that holds just 'xs'. -/
def Arr (w : World) (g : Nat) (e : TypeId) (xs : List Value) : Prop := w.heap[g]? = some (.cells xs.toArray e (0, 0))

theorem Arr.lt {w : World} {g : Nat} {e : TypeId} {xs : List Value} (h : Arr w g e xs) : g < w.heap.size :=
  (Array.getElem?_eq_some_iff.1 h).1
theorem Arr.cell {w : World} {g : Nat} {e : TypeId} {xs : List Value} (h : Arr w g e xs) (j : Nat) : w.cell? ⟨g, j, none⟩ = xs[j]? := by
  simp [World.cell?, show w.heap[g]? = _ from h]
theorem Arr.frozen {w : World} {g : Nat} {e : TypeId} {xs : List Value} (h : Arr w g e xs) (j : Nat) : w.frozen? ⟨g, j, none⟩ = false := by
  simp [World.frozen?, show w.heap[g]? = _ from h]
theorem Arr.set {w : World} {g : Nat} {e : TypeId} {xs : List Value} (h : Arr w g e xs) (j : Nat) (v : Value) : Arr (w.setCell ⟨g, j, none⟩ v) g e (xs.set j v) := by
  unfold Arr World.setCell
  simp only [Array.getElem?_modify, if_pos, show w.heap[g]? = _ from h]
  simp
theorem Arr.set_other {w : World} {g : Nat} {e : TypeId} {xs : List Value} (h : Arr w g e xs) {a : Addr} (ha : g ≠ a.block) (v : Value) : Arr (w.setCell a v) g e xs := by
  unfold Arr
  rw [Below.heap_setCell _ _ _ _ ha]
  exact h
theorem Arr.alloc {w : World} {g : Nat} {e : TypeId} {xs : List Value} (h : Arr w g e xs) (o : Obj) : Arr (w.alloc o) g e xs := by
  unfold Arr
  rw [Below.heap_alloc _ _ _ h.lt]
  exact h
theorem Arr.new (w : World) (c : Array Value) (e : TypeId) : Arr (w.alloc (.cells c e)) w.heap.size e c.toList := by
  show (w.heap.push (.cells c e))[w.heap.size]? = _
  simp
theorem Arr.drew {w : World} {g : Nat} {e : TypeId} {xs : List Value} (h : Arr w g e xs) : Arr w.drew g e xs := h
theorem Arr.below {w w' : World} {B g : Nat} {e : TypeId} {xs : List Value} (h : Arr w g e xs) (hb : Below B w w') (hg : g < B) : Arr w' g e xs := by
  unfold Arr
  rw [hb.block g hg]
  exact h

/-! ### 'make' -/
theorem madeCells_rep (z : Value) (n : Nat) : madeCells #[z] n = Array.replicate n z := by
  apply Array.toList_inj.1
  rw [toList_madeCells_one]; simp

theorem Try.info3 : (Try.prog.info? 3).map (fun i => (i.zero, i.size, i.bytes)) = some (some (.int .i64 0), 1, 8) := by kernel_rfl
theorem Try.info4 : (Try.prog.info? 4).map (fun i => (i.zero, i.size, i.bytes)) = some (some (.bool false), 1, 1) := by kernel_rfl
theorem Try.info5 : (Try.prog.info? 5).map (fun i => (i.zero, i.size, i.bytes)) = some (some (.int .u8 0), 1, 1) := by kernel_rfl
theorem Try.info25 : (Try.prog.info? 25).map (fun i => (i.zero, i.size, i.bytes)) = some (some (.slice none 0 0), 1, 24) := by kernel_rfl
theorem Try.info33 : (Try.prog.info? 33).map (fun i => (i.zero, i.size, i.bytes)) = some (some (.slice none 0 0), 1, 24) := by kernel_rfl

/-- 'make([]T, n)', one cell an element. -/
theorem make_one {t e : TypeId} {z : Value} {bytes : Nat} (ht : Try.prog.underlying t = some (.slice e)) (hinfo : (Try.prog.info? e).map (fun i => (i.zero, i.size, i.bytes)) = some (some z, 1, bytes))
    (hz : z.cells = #[z]) (n : Nat) (hb : bytes * n ≤ 281474976710656) (h63 : n ≤ 9223372036854775807) (w : World) :
    (Instr.makeSlice t (.int .i64 n) (.int .i64 n)).run Try.prog w = .ok (.slice (some ⟨w.heap.size, 0, none⟩) n n) (w.alloc (.cells (Array.replicate n z) e)) := by
  obtain ⟨i, hi, hz0, hz1, hz2⟩ := info_parts hinfo
  have hb' : (i.bytes : Int) * (n : Int) ≤ 281474976710656 := by
    rw [hz2]
    have h : ((bytes * n : Nat) : Int) ≤ 281474976710656 := by omega
    rwa [Int.natCast_mul] at h
  have := run_make (P := Try.prog) w t e i z ht hi hz0 .i64 .i64 n n (by omega) (by omega) hb' (by omega)
  rw [this]
  simp [hz1, hz, madeCells_rep]

/-! ### A slice, wherever it lies -/
/-- Behind the address 'a' lie the values 'vs' (no value: whatever the address), in no block below 'lo'. -/
def Row (lo : Nat) (w : World) (a : Option Addr) (vs : List Value) : Prop :=
  ∀ j, j < vs.length → ∃ b off, a = some ⟨b, off, none⟩ ∧ lo ≤ b ∧ w.cell? ⟨b, off + j, none⟩ = some (vs.getD j undef)

theorem indexAt_one {t e : TypeId} {z : Value} {bytes : Nat} (ht : Try.prog.underlying t = some (.slice e)) (hinfo : (Try.prog.info? e).map (fun i => (i.zero, i.size, i.bytes)) = some (some z, 1, bytes))
    (b off len cap k : Nat) (hk : k < len) (w : World) :
    (Instr.indexAt t (.slice (some ⟨b, off, none⟩) len cap) (.int .i64 k)).run Try.prog w = .ok (.pointer (some ⟨b, off + k, none⟩)) w := by
  obtain ⟨i, hi, hz0, hz1, hz2⟩ := info_parts hinfo
  have he : Try.prog.elem t = e := by simp [Program.elem, ht]
  rw [run_indexAt_slice (h := by rw [he]; exact ht), if_pos ⟨by omega, by omega⟩, he]
  simp [sizeOf, typeInfo, hi, hz1, Addr.add]

theorem row_open {lo : Nat} {w : World} {a : Option Addr} {vs : List Value} (h : Row lo w a vs) {t e : TypeId} {z : Value} {bytes : Nat} (ht : Try.prog.underlying t = some (.slice e)) (hinfo : (Try.prog.info? e).map (fun i => (i.zero, i.size, i.bytes)) = some (some z, 1, bytes)) :
    ∃ b off, (∀ (c : Nat) (k : Nat) (w' : World), k < vs.length → (Instr.indexAt t (.slice a vs.length c) (.int .i64 k)).run Try.prog w' = .ok (.pointer (some ⟨b, off + k, none⟩)) w') ∧
      (∀ j, j < vs.length → w.cell? ⟨b, off + j, none⟩ = some (vs.getD j undef)) ∧ (vs.length = 0 ∨ a = some ⟨b, off, none⟩) := by
  by_cases hz : vs.length = 0
  · exact ⟨0, 0, fun c k w' hk => by omega, fun j hj => by omega, .inl hz⟩
  · obtain ⟨b, off, ha, hlo, _⟩ := h 0 (by omega)
    refine ⟨b, off, fun c k w' hk => ?_, fun j hj => ?_, .inr ha⟩
    · rw [ha]
      exact indexAt_one ht hinfo b off _ c k hk w'
    · obtain ⟨b', off', ha', _, hc⟩ := h j hj
      rw [ha] at ha'
      simp at ha'
      obtain ⟨rfl, rfl⟩ := ha'
      exact hc
theorem Row.nil (lo : Nat) (w : World) (a : Option Addr) : Row lo w a [] := fun j hj => by simp at hj
theorem Row.same {lo : Nat} {w w' : World} {a : Option Addr} {vs : List Value} (h : Row lo w a vs) (hk : ∀ b, lo ≤ b → b < w.heap.size → w'.heap[b]? = w.heap[b]?) : Row lo w' a vs := by
  intro j hj
  obtain ⟨b, off, ha, hlo, hc⟩ := h j hj
  refine ⟨b, off, ha, hlo, ?_⟩
  have hlt : b < w.heap.size := World.block_lt_of_cell? w _ hc
  rw [← hc]
  unfold World.cell?
  rw [hk b hlo hlt]
theorem Row.below {lo : Nat} {w w' : World} {a : Option Addr} {vs : List Value} (h : Row lo w a vs) (hb : Below w.heap.size w w') : Row lo w' a vs :=
  h.same fun b _ hlt => hb.block b hlt
theorem Row.mono {lo lo' : Nat} {w : World} {a : Option Addr} {vs : List Value} (h : Row lo w a vs) (hl : lo' ≤ lo) : Row lo' w a vs := by
  intro j hj
  obtain ⟨b, off, ha, hlo, hc⟩ := h j hj
  exact ⟨b, off, ha, by omega, hc⟩
theorem Arr.row {w : World} {g : Nat} {e : TypeId} {xs : List Value} (h : Arr w g e xs) : Row g w (some ⟨g, 0, none⟩) xs := by
  intro j hj
  refine ⟨g, 0, rfl, Nat.le_refl _, ?_⟩
  rw [Nat.zero_add, h.cell j]
  simp [hj]

/-- The value 'v' is a slice that reads as 'vs'; nil has no element and no room. -/
def IsRow (lo : Nat) (w : World) (v : Value) (vs : List Value) : Prop := ∃ a c, v = .slice a vs.length c ∧ (a = none → vs = [] ∧ c = 0) ∧ Row lo w a vs
theorem IsRow.same {lo : Nat} {w w' : World} {v : Value} {vs : List Value} (h : IsRow lo w v vs) (hk : ∀ b, lo ≤ b → b < w.heap.size → w'.heap[b]? = w.heap[b]?) : IsRow lo w' v vs := by
  obtain ⟨a, c, h1, h2, h3⟩ := h
  exact ⟨a, c, h1, h2, h3.same hk⟩
theorem IsRow.below {lo : Nat} {w w' : World} {v : Value} {vs : List Value} (h : IsRow lo w v vs) (hb : Below w.heap.size w w') : IsRow lo w' v vs := h.same fun b _ hlt => hb.block b hlt
theorem IsRow.mono {lo lo' : Nat} {w : World} {v : Value} {vs : List Value} (h : IsRow lo w v vs) (hl : lo' ≤ lo) : IsRow lo' w v vs := by
  obtain ⟨a, c, h1, h2, h3⟩ := h
  exact ⟨a, c, h1, h2, h3.mono hl⟩
theorem IsRow.nil (lo : Nat) (w : World) : IsRow lo w (.slice none 0 0) [] := ⟨none, 0, rfl, fun _ => ⟨rfl, rfl⟩, Row.nil _ _ _⟩

/-- Numbers as values. -/
def ivs (zs : List Int) : List Value := zs.map (Value.int .i64)
theorem ivs_len (zs : List Int) : (ivs zs).length = zs.length := by simp [ivs]
theorem ivs_get (zs : List Int) (j : Nat) (hj : j < zs.length) : (ivs zs).getD j undef = .int .i64 (zs.getD j 0) := by simp [ivs, hj]
/-- The slice 'v' reads as the numbers 'zs'. -/
def IsI (lo : Nat) (w : World) (v : Value) (zs : List Int) : Prop := IsRow lo w v (ivs zs)
end Go.Proofs.Qxb6604382a
