import Derived.Test.Qxb6603214aClone
namespace Go.Proofs.Qxb6603214a
open Go.RowKit
set_option linter.unusedVariables false

/-! ### ZZRunOf -/
def evZero : Value := .agg #[.string ByteArray.empty, .int .i64 0, .string ByteArray.empty, .string ByteArray.empty, .int .i64 0, .string ByteArray.empty]
theorem Try.info60 : (Try.prog.info? 60).map (fun i => (i.zero, i.size, i.bytes)) = some (some evZero, 6, 80) := by kernel_rfl

theorem make_events (n : Nat) (hn : n ≤ 10000000) : ∃ C0 : Array Value, C0.size = n * 6 ∧ ∀ w : World,
    (Instr.makeSlice 55 (.int .i64 n) (.int .i64 n)).run Try.prog w = .ok (.slice (some ⟨w.heap.size, 0, none⟩) n n) (w.alloc (.cells C0 60)) := by
  refine ⟨madeCells evZero.cells (n * 6), by simp [size_madeCells], fun w => ?_⟩
  obtain ⟨i, hi, hz0, hz1, hz2⟩ := info_parts Try.info60
  have := run_make (P := Try.prog) w 55 60 i evZero Try.underlying55 hi hz0 .i64 .i64 n n (by omega) (by omega) (by rw [hz2]; omega) (by omega)
  rw [this]
  simp [hz1]
theorem indexAt_ev (b len cap k : Nat) (hk : k < len) (w : World) :
    (Instr.indexAt 55 (.slice (some ⟨b, 0, none⟩) len cap) (.int .i64 k)).run Try.prog w = .ok (.pointer (some ⟨b, k * 6, none⟩)) w := by
  obtain ⟨i, hi, hz0, hz1, hz2⟩ := info_parts Try.info60
  have he : Try.prog.elem 55 = 60 := by simp [Program.elem, Try.underlying55]
  rw [run_indexAt_slice (h := by rw [he]; exact Try.underlying55), if_pos ⟨by omega, by omega⟩, he]
  simp [sizeOf, typeInfo, hi, hz1, Addr.add]
  omega

/-- Block 'g' is a row of events, of which the first 'k' have the seqs 'zs'. -/
def EvAt (w : World) (g : Nat) (zs : List Int) (k : Nat) : Prop := ∃ cur, Arr w g 60 cur ∧ cur.length = zs.length * 6 ∧ ∀ j, j < k → cur[j * 6 + 1]? = some (.int .i64 (zs.getD j 0))
theorem EvAt.cell {w : World} {g : Nat} {zs : List Int} {k : Nat} (h : EvAt w g zs k) (j : Nat) (hj : j < k) : w.cell? ⟨g, j * 6 + 1, none⟩ = some (.int .i64 (zs.getD j 0)) := by
  obtain ⟨cur, ha, hl, hc⟩ := h
  rw [ha.cell, hc j hj]
theorem EvAt.some {w : World} {g : Nat} {zs : List Int} {k : Nat} (h : EvAt w g zs k) (j : Nat) (hj : j < zs.length) : ∃ u, w.cell? ⟨g, j * 6 + 1, none⟩ = some u := by
  obtain ⟨cur, ha, hl, hc⟩ := h
  exact ⟨cur[j * 6 + 1]'(by omega), by rw [ha.cell, List.getElem?_eq_getElem]⟩
theorem EvAt.frozen {w : World} {g : Nat} {zs : List Int} {k : Nat} (h : EvAt w g zs k) (j : Nat) : w.frozen? ⟨g, j, none⟩ = false := by
  obtain ⟨cur, ha, hl, hc⟩ := h
  exact ha.frozen j
theorem EvAt.step {w : World} {g : Nat} {zs : List Int} {k : Nat} (h : EvAt w g zs k) (hk : k < zs.length) : EvAt (w.setCell ⟨g, k * 6 + 1, none⟩ (.int .i64 (zs.getD k 0))) g zs (k + 1) := by
  obtain ⟨cur, ha, hl, hc⟩ := h
  refine ⟨_, ha.set _ _, by simpa using hl, fun j hj => ?_⟩
  by_cases e : j = k
  · subst e; rw [List.getElem?_set_self (by omega)]
  · rw [List.getElem?_set_ne (by omega)]; exact hc j (by omega)
theorem EvAt.below {w w' : World} {B g : Nat} {zs : List Int} {k : Nat} (h : EvAt w g zs k) (hb : Below B w w') (hg : g < B) : EvAt w' g zs k := by
  obtain ⟨cur, ha, hl, hc⟩ := h
  exact ⟨cur, ha.below hb hg, hl, hc⟩
theorem EvAt.alloc {w : World} {g : Nat} {zs : List Int} {k : Nat} (h : EvAt w g zs k) (o : Obj) : EvAt (w.alloc o) g zs k := by
  obtain ⟨cur, ha, hl, hc⟩ := h
  exact ⟨cur, ha.alloc o, hl, hc⟩

/-- Block 'R' is a run: its fields 'processes', 'events', 'lanes', 'proc', 'sender'; the events' block 'E' holds the seqs 'zs'. -/
structure RunAt (w : World) (R : Nat) (v0 v2 v3 v4 : Value) (E : Nat) (zs : List Int) : Prop where
  c0 : w.cell? ⟨R, 0, none⟩ = some v0
  c1 : w.cell? ⟨R, 1, none⟩ = some (.slice (some ⟨E, 0, none⟩) zs.length zs.length)
  c2 : w.cell? ⟨R, 2, none⟩ = some v2
  c3 : w.cell? ⟨R, 3, none⟩ = some v3
  c4 : w.cell? ⟨R, 4, none⟩ = some v4
  ev : EvAt w E zs zs.length
theorem RunAt.below {w w' : World} {R : Nat} {v0 v2 v3 v4 : Value} {E : Nat} {zs : List Int} (h : RunAt w R v0 v2 v3 v4 E zs) (hb : Below w.heap.size w w') : RunAt w' R v0 v2 v3 v4 E zs :=
  ⟨cell_later hb h.c0, cell_later hb h.c1, cell_later hb h.c2, cell_later hb h.c3, cell_later hb h.c4, h.ev.below hb (by obtain ⟨_, ha, _⟩ := h.ev; exact ha.lt)⟩

/-- What ZZRunOf leaves. -/
def RunMade (v0 v2 v3 v4 : Value) (zs : List Int) (w : World) (e : Ending) (w' : World) : Prop :=
  e = .returned (.pointer (some ⟨w.heap.size + 1, 0, none⟩)) ∧ RunAt w' (w.heap.size + 1) v0 v2 v3 v4 w.heap.size zs ∧ Below w.heap.size w w'

theorem runMade_mk {v0 v2 v3 v4 : Value} {zs : List Int} {w wr : World} (hev : EvAt wr w.heap.size zs zs.length) (hbel : Below w.heap.size w wr) (hsz : wr.heap.size = w.heap.size + 1) (c : Array Value) (t : TypeId)
    (h0 : c[0]? = some v0) (h1 : c[1]? = some (.slice (some ⟨w.heap.size, 0, none⟩) zs.length zs.length)) (h2 : c[2]? = some v2) (h3 : c[3]? = some v3) (h4 : c[4]? = some v4) :
    RunMade v0 v2 v3 v4 zs w (.returned (.pointer (some ⟨w.heap.size + 1, 0, none⟩))) (wr.alloc (.cells c t)) := by
  refine ⟨rfl, ?_, hbel.alloc (by omega) _⟩
  rw [← hsz]
  exact ⟨by rw [World.cell?_alloc_new, h0], by rw [World.cell?_alloc_new, h1], by rw [World.cell?_alloc_new, h2], by rw [World.cell?_alloc_new, h3], by rw [World.cell?_alloc_new, h4], hev.alloc _⟩

set_option maxHeartbeats 400000 in
theorem runOf_any (a0 a1 a2 a3 a4 : Option Addr) (n0 c0 c1 n2 c2 n3 c3 n4 c4 : Nat) (zs : List Int) (w : World) (hz : zs.length ≤ 5000) (hc : Ints w a1 zs) :
    Calls Try.prog 13 #[.slice a0 n0 c0, .slice a1 zs.length c1, .slice a2 n2 c2, .slice a3 n3 c3, .slice a4 n4 c4] w (RunMade (.slice a0 n0 c0) (.slice a2 n2 c2) (.slice a3 n3 c3) (.slice a4 n4 c4) zs w) := by
  obtain ⟨b, off, hix, hcell⟩ := ints_open hc
  clear hc
  obtain ⟨C0, hC0, hmk⟩ := make_events zs.length (by omega)
  have hbw : ∀ k, k < zs.length → b < w.heap.size := fun k hk => World.block_lt_of_cell? w _ (hcell k hk)
  have HC : Hid (∀ j, j < zs.length → w.cell? ⟨b, off + j, none⟩ = some (.int .i64 (zs.getD j 0))) := hcell
  have hixN := fun k w' hk => indexAt_ev w.heap.size zs.length zs.length k hk w'
  clear hcell
  go_enter Try.func13, Try.ntmps13
  go_wp2
  go_loopw [18] (fun i wr => ∃ k : Nat, k ≤ zs.length ∧ i = .int .i64 k ∧ EvAt wr w.heap.size zs k ∧ Below w.heap.size w wr ∧ wr.heap.size = w.heap.size + 1) (fun i _ => zs.length - (intOf i).toNat)
  case atStart => exact ⟨0, Nat.zero_le _, rfl, ⟨_, Arr.new w _ 60, by simpa using hC0, fun j hj => by omega⟩, (Below.refl _ _).alloc (Nat.le_refl _) _, by simp⟩
  case round =>
    obtain ⟨k, hk, rfl, hev, hbel, hsz⟩ := hrel
    by_cases hlt : k < zs.length
    · have g1 : wr.cell? ⟨b, off + k, none⟩ = some (.int .i64 (zs.getD k 0)) := cell_later hbel (HC.out k hlt)
      obtain ⟨u, g2⟩ := hev.some k hlt
      have g3 := hev.frozen (k * 6 + 1)
      have hst := hev.step hlt
      generalize hx : zs.getD k 0 = x at *
      clear hx
      go_wp2
      go_roundw
      case rel => exact ⟨k + 1, by omega, by go_num, hst, hbel.setCell (Nat.le_refl _) _, by simpa using hsz⟩
      case measure => simp [intOf]; omega
    · have e : k = zs.length := by omega
      go_wp2
      go_ret
      exact runMade_mk (e ▸ hev) hbel hsz _ _ rfl rfl rfl rfl rfl
end Go.Proofs.Qxb6603214a
