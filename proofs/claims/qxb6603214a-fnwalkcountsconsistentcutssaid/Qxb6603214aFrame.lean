import Derived.Test.Qxb6603214aArgs
import Derived.ProofKit
import Derived.OpenShut
import Derived.ShutString
import Derived.ChangeOld
import Derived.SliceStrings
namespace Go.Proofs.Qxb6603214a
open Go.ChangeShapes Go.WideShapes Go.ChangeAt Go.RowKit
set_option linter.unusedVariables false

theorem own : ownKnob Try.prog.godebug = none := by kernel_rfl
theorem laidOut : laidOutB Try.prog = true := by kernel_rfl

theorem addr_cells {w : World} {x : Addr} {n : Nat} {v : Nat → Value} (h : ∀ i, i < n → w.cell? (x.add i) = some (v i)) : ∀ j, j < n → ∃ b off, (some x : Option Addr) = some ⟨b, off, none⟩ ∧ w.cell? ⟨b, off + j, none⟩ = some (v j) := by
  intro j hj
  obtain ⟨b, off, spot⟩ := x
  have h0 := h 0 (by omega)
  have hspot : spot = none := by simpa [Addr.add] using World.cell?_spot h0
  subst hspot
  refine ⟨b, off, rfl, ?_⟩
  have := h j hj
  rwa [show (⟨b, off, none⟩ : Addr).add j = ⟨b, off + j, none⟩ by unfold Addr.add; split <;> simp_all] at this

theorem argI_of {H : Type} {enc : TypeId × Value → H} {W : World} {a : Option Addr} {len cap : Nat} {d : DataW H} {p : List MemPlace} (h : DataW.Trod enc Try.prog W 0 (fun _ => true) true 23 (.slice a len cap) d p) : ∃ zs : List Int, zs.length = len ∧ ArgI W a cap zs := by
  obtain ⟨fuel, hf⟩ := h
  rcases open_ints Try.underlying23 Try.underlying3 (by kernel_rfl) hf with ⟨hcs, _⟩ | ⟨x, l, c, zs, hcs, _, hl, hm, hz, _, hcell, hwz⟩
  · simp [Value.cells] at hcs
    obtain ⟨rfl, rfl, rfl⟩ := hcs
    exact ⟨[], rfl, Ints.nil _ _, fun _ => ⟨rfl, rfl⟩, Nat.zero_le _⟩
  · simp [Value.cells] at hcs
    obtain ⟨rfl, rfl, rfl⟩ := hcs
    simp at hz
    have hlen : (zs.take len).length = len := by rw [List.length_take]; omega
    refine ⟨zs.take len, hlen, ?_, fun h => (by cases h), by rw [hlen]; omega⟩
    refine addr_cells (v := fun i => .int .i64 ((zs.take len).getD i 0)) (fun i hi => ?_)
    rw [hlen] at hi
    rw [hcell i (by omega)]
    simp [hi]

theorem argS_of {H : Type} {enc : TypeId × Value → H} {W : World} {a : Option Addr} {len cap : Nat} {d : DataW H} {p : List MemPlace} (h : DataW.Trod enc Try.prog W 0 (fun _ => true) true 22 (.slice a len cap) d p) : ∃ zs : List ByteArray, zs.length = len ∧ ArgS W a cap zs := by
  obtain ⟨fuel, hf⟩ := h
  rcases open_strings Try.underlying22 Try.underlying9 (by kernel_rfl) hf with ⟨hcs, _⟩ | ⟨x, l, c, zs, hcs, _, hl, hm, hz, _, hcell, hwz⟩
  · simp [Value.cells] at hcs
    obtain ⟨rfl, rfl, rfl⟩ := hcs
    exact ⟨[], rfl, fun j hj => (by simp at hj), fun _ => ⟨rfl, rfl⟩, Nat.zero_le _, by simp⟩
  · simp [Value.cells] at hcs
    obtain ⟨rfl, rfl, rfl⟩ := hcs
    simp at hz
    have hlen : (zs.take len).length = len := by rw [List.length_take]; omega
    refine ⟨zs.take len, hlen, ?_, fun h => (by cases h), by rw [hlen]; omega, fun s hs => hwz s (List.mem_of_mem_take hs)⟩
    refine addr_cells (v := fun i => .string ((zs.take len).getD i ByteArray.empty)) (fun i hi => ?_)
    rw [hlen] at hi
    rw [hcell i (by omega)]
    simp [hi]
end Go.Proofs.Qxb6603214a
