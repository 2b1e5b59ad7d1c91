import Derived.Test.Qxb6603214aChk
namespace Go.Proofs.Qxb6603214a
open Go.RowKit
set_option linter.unusedVariables false

/-- A slice of the call's own: nil, or a row of its own that it fills whole. -/
def OwnInts (w : World) (v : Value) (zs : List Int) : Prop := (v = .slice none 0 0 ∧ zs = []) ∨ ∃ g, v = .slice (some ⟨g, 0, none⟩) zs.length zs.length ∧ IArr w g zs

/-- 'It answers a slice that holds zs, in new memory.' -/
def Cloned (zs : List Int) (w : World) (e : Ending) (w' : World) : Prop := ∃ v, e = .returned v ∧ OwnInts w' v zs ∧ Below w.heap.size w w'

theorem take_set_succ (zs : List Int) (k n : Nat) (h : k < zs.length) (hn : n = zs.length) : (zs.take k ++ List.replicate (n - k) 0).set k (zs.getD k 0) = zs.take (k + 1) ++ List.replicate (n - (k + 1)) 0 := by
  subst hn
  apply List.ext_getElem?
  intro i
  simp only [List.getElem?_set, List.getElem?_append, List.length_take, List.getElem?_take, List.getElem?_replicate, List.length_append, List.length_replicate]
  by_cases h1 : k = i
  · subst h1
    rw [if_pos (by omega), if_pos (by omega), if_pos (by omega)]
    simp [h]
  · by_cases h2 : i < k
    · simp [h1, h2, show i < min k zs.length by omega, show i < min (k + 1) zs.length by omega, show i < k + 1 by omega]
    · simp [h1, show ¬ i < min k zs.length by omega, show ¬ i < min (k + 1) zs.length by omega]
      congr 1
      simp
      omega

set_option maxHeartbeats 400000 in
theorem cloneInts_some (ad : Addr) (c : Nat) (zs : List Int) (w : World) (hz : zs.length ≤ 5000) (hc : Ints w (some ad) zs) :
    Calls Try.prog 12 #[.slice (some ad) zs.length c] w (Cloned zs w) := by
  obtain ⟨b, off, hix, hcell⟩ := ints_open hc
  clear hc
  have hmk := make_ints zs.length (by omega)
  have hnil := fun w => Lib.run_eql_slice_nil (P := Try.prog) w 23 3 (some ad) zs.length c 0 0 Try.underlying23
  have hbw : ∀ k, k < zs.length → b < w.heap.size := fun k hk => World.block_lt_of_cell? w _ (hcell k hk)
  have HC : Hid (∀ j, j < zs.length → w.cell? ⟨b, off + j, none⟩ = some (.int .i64 (zs.getD j 0))) := hcell
  have hixN : ∀ (k : Nat) (w' : World), k < zs.length → (Instr.indexAt 23 (.slice (some ⟨w.heap.size, 0, none⟩) zs.length zs.length) (.int .i64 k)).run Try.prog w' = .ok (.pointer (some ⟨w.heap.size, k, none⟩)) w' :=
    fun k w' hk => by simpa using indexAt_one Try.underlying23 Try.info3 w.heap.size 0 _ zs.length k hk w'
  clear hcell
  go_enter Try.func12, Try.ntmps12
  go_wp2
  go_loopw [4] (fun i wr => ∃ k : Nat, k ≤ zs.length ∧ i = .int .i64 k ∧ IArr wr w.heap.size (zs.take k ++ List.replicate (zs.length - k) 0) ∧ Below w.heap.size w wr) (fun i _ => zs.length - (intOf i).toNat)
  case atStart => exact ⟨0, Nat.zero_le _, rfl, by simpa using IArr.made w zs.length, (Below.refl _ _).alloc (Nat.le_refl _) _⟩
  case round =>
    obtain ⟨k, hk, rfl, harr, hbel⟩ := hrel
    by_cases hlt : k < zs.length
    · have g1 : wr.cell? ⟨b, off + k, none⟩ = some (.int .i64 (zs.getD k 0)) := cell_later hbel (HC.out k hlt)
      have g2 := harr.cell k (by simp; omega)
      have g3 := harr.frozen k
      have hset := harr.set k (zs.getD k 0)
      rw [take_set_succ zs k _ hlt rfl] at hset
      generalize hx : zs.getD k 0 = x at *
      clear hx
      generalize (zs.take k ++ List.replicate (zs.length - k) 0).getD k 0 = y at g2
      go_wp2
      go_roundw
      case rel => exact ⟨k + 1, by omega, by go_num, hset, hbel.setCell (Nat.le_refl _) _⟩
      case measure => simp [intOf]; omega
    · have e : k = zs.length := by omega
      go_wp2
      go_ret
      refine ⟨_, rfl, .inr ⟨w.heap.size, rfl, ?_⟩, hbel⟩
      have := harr
      rw [e] at this
      simpa using this
end Go.Proofs.Qxb6603214a
