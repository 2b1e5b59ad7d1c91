import Derived.Test.Qxb6604382aArgs
import Derived.ProofKit
import Derived.OpenShut
import Derived.ShutString
import Derived.ChangeOld
import Derived.Deep.Matrix
import Derived.Deep.Grids
namespace Go.Proofs.Qxb6604382a
open Go.ChangeShapes Go.WideShapes Go.ChangeAt Go.RowKit Go.Deep
set_option linter.unusedVariables false

theorem own : ownKnob Try.prog.godebug = none := by kernel_rfl
theorem laidOut : laidOutB Try.prog = true := by kernel_rfl

theorem row_of_addr {w : World} {x : Addr} {vs : List Value} (h : ∀ i, i < vs.length → w.cell? (x.add i) = some (vs.getD i undef)) : Row 0 w (some x) vs := by
  intro j hj
  obtain ⟨b, off, spot⟩ := x
  have h0 := h 0 (by omega)
  have hspot : spot = none := by simpa [Addr.add] using World.cell?_spot h0
  subst hspot
  refine ⟨b, off, rfl, Nat.zero_le _, ?_⟩
  have := h j hj
  rwa [show (⟨b, off, none⟩ : Addr).add j = ⟨b, off + j, none⟩ by unfold Addr.add; split <;> simp_all] at this

theorem argI_of {H : Type} {enc : TypeId × Value → H} {W : World} {a : Option Addr} {len cap : Nat} {d : DataW H} {p : List MemPlace} (h : DataW.Trod enc Try.prog W 0 (fun _ => true) true 25 (.slice a len cap) d p) : ∃ zs : List Int, zs.length = len ∧ ArgR W a cap (ivs zs) := by
  obtain ⟨fuel, hf⟩ := h
  rcases open_ints Try.underlying25 Try.underlying3 (by kernel_rfl) hf with ⟨hcs, _⟩ | ⟨x, l, c, zs, hcs, _, hl, hm, hz, _, hcell, hwz⟩
  · simp [Value.cells] at hcs
    obtain ⟨rfl, rfl, rfl⟩ := hcs
    exact ⟨[], rfl, Row.nil _ _ _, fun _ => ⟨rfl, rfl⟩, Nat.zero_le _⟩
  · simp [Value.cells] at hcs
    obtain ⟨rfl, rfl, rfl⟩ := hcs
    simp at hz
    have hlen : (zs.take len).length = len := by rw [List.length_take]; omega
    refine ⟨zs.take len, hlen, row_of_addr (fun i hi => ?_), fun h => (by cases h), by rw [ivs_len, hlen]; omega⟩
    rw [ivs_len, hlen] at hi
    rw [hcell i (by omega), ivs_get _ _ (by rw [hlen]; exact hi)]
    simp [hi]

theorem argB_of {H : Type} {enc : TypeId × Value → H} {W : World} {a : Option Addr} {len cap : Nat} {d : DataW H} {p : List MemPlace} (h : DataW.Trod enc Try.prog W 0 (fun _ => true) true 23 (.slice a len cap) d p) : ∃ bs : List Bool, bs.length = len ∧ ArgR W a cap (bs.map Value.bool) := by
  obtain ⟨fuel, hf⟩ := h
  rcases open_bools Try.underlying23 Try.underlying4 (by kernel_rfl) hf with ⟨hcs, _⟩ | ⟨x, l, c, B, hcs, _, hl, hm, _, hcell⟩
  · simp [Value.cells] at hcs
    obtain ⟨rfl, rfl, rfl⟩ := hcs
    exact ⟨[], rfl, Row.nil _ _ _, fun _ => ⟨rfl, rfl⟩, Nat.zero_le _⟩
  · simp [Value.cells] at hcs
    obtain ⟨rfl, rfl, rfl⟩ := hcs
    refine ⟨(List.range len).map B, by simp, row_of_addr (fun i hi => ?_), fun h => (by cases h), by simp; omega⟩
    simp at hi
    rw [hcell i (by omega)]
    simp [hi]

theorem argL_of {H : Type} {enc : TypeId × Value → H} {W : World} {a : Option Addr} {len cap : Nat} {d : DataW H} {p : List MemPlace} {t e q : TypeId} {κ : IntKind} (ht : Try.prog.underlying t = some (.slice e)) (he : Try.prog.underlying e = some (.slice q)) (hq : Try.prog.underlying q = some (.int κ))
    (ce : Try.prog.cellsOf e = 1) (cq : Try.prog.cellsOf q = 1) (h : DataW.Trod enc Try.prog W 0 (fun _ => true) true t (.slice a len cap) d p) : ∃ (us : List Value) (cs : List (List Int)), us.length = len ∧ ArgL κ W a cap us cs := by
  obtain ⟨fuel, hf⟩ := h
  rcases open_int_rows ht he hq ce cq hf with ⟨hcs, _⟩ | ⟨x, l, c, A, L, C, Z, hcs, _, hl, hm, _, hx⟩
  · simp [Value.cells] at hcs
    obtain ⟨rfl, rfl, rfl⟩ := hcs
    exact ⟨[], [], rfl, Row.nil _ _ _, fun _ => ⟨rfl, rfl⟩, rfl, fun j hj => (by simp at hj), Nat.zero_le _⟩
  · simp [Value.cells] at hcs
    obtain ⟨rfl, rfl, rfl⟩ := hcs
    refine ⟨(List.range len).map (fun r => .slice (A r) (L r) (C r)), (List.range len).map (fun r => (Z r).take (L r)), by simp, ?_⟩
    refine ⟨row_of_addr (fun i hi => ?_), fun h => (by cases h), by simp, fun j hj => ?_, by simp; omega⟩
    · simp at hi
      rw [(hx i (by omega)).1]
      simp [hi]
    · simp at hj
      obtain ⟨h1, h2, h3, h4, _, h5, h6⟩ := hx j (by omega)
      have hln : ((Z j).take (L j)).length = L j := by rw [List.length_take]; omega
      simp only [List.getD_eq_getElem?_getD, List.getElem?_map, List.getElem?_range hj, Option.map_some, Option.getD_some]
      refine ⟨⟨A j, C j, by rw [List.length_map, hln], fun ha => ?_, ?_⟩, by rw [hln]; omega⟩
      · have := h5 ha
        refine ⟨?_, this⟩
        rw [List.map_eq_nil_iff, ← List.length_eq_zero_iff, hln]
        omega
      · cases ha : A j with
        | none => 
          have := h5 ha
          intro i hi
          simp at hi
          omega
        | some a' =>
          refine row_of_addr (fun i hi => ?_)
          rw [List.length_map, hln] at hi
          rw [(h6 a' ha).2 i (by omega)]
          simp [hi, show i < (Z j).length by omega]
end Go.Proofs.Qxb6604382a
