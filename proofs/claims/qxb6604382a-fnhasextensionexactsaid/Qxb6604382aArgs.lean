import Derived.Test.Qxb6604382aApp
import Derived.Test.Qxb6604382aBytes
namespace Go.Proofs.Qxb6604382a
open Go.RowKit
set_option linter.unusedVariables false

/-- A slice of slices of numbers as it comes in. -/
structure ArgL (κ : IntKind) (w : World) (a : Option Addr) (c : Nat) (us : List Value) (cs : List (List Int)) : Prop where
  row : Row 0 w a us
  nil : a = none → us = [] ∧ c = 0
  cl : cs.length = us.length
  each : ∀ j, j < us.length → IsRow 0 w (us.getD j undef) ((cs.getD j []).map (Value.int κ)) ∧ (cs.getD j []).length ≤ maxLen
  len : us.length ≤ maxLen
/-- A slice as it comes in. -/
structure ArgR (w : World) (a : Option Addr) (c : Nat) (vs : List Value) : Prop where
  row : Row 0 w a vs
  nil : a = none → vs = [] ∧ c = 0
  len : vs.length ≤ maxLen

/-- The law's answer: true; no old memory has turned. -/
def LawTrue (w : World) (e : Ending) (w' : World) : Prop := e = .returned (.bool true) ∧ Below w.heap.size w w'
theorem LawTrue.mk {w w' : World} (β : Bool) (hβ : β = true) (h : Below w.heap.size w w') : LawTrue w (.returned (.bool β)) w' := ⟨by rw [hβ], h⟩

section
variable {κ : IntKind} {w : World} {a : Option Addr} {c : Nat} {us : List Value} {cs : List (List Int)}
theorem ArgL.lens (h : ArgL κ w a c us cs) : Lens us (fun j => (cs.getD j []).length) := by
  intro j hj
  obtain ⟨⟨a', c', hv, _⟩, hl⟩ := h.each j hj
  exact ⟨hl, a', c', by rw [hv]; simp⟩
theorem getD_map_map (f : Int → Value) (j : Nat) : (cs.map (·.map f)).getD j [] = (cs.getD j []).map f := by
  by_cases h : j < cs.length
  · simp [h]
  · simp [show cs[j]? = none from List.getElem?_eq_none (by omega)]
theorem shape_map {α : Type} (f : α → Value) (zs : List α) (j : Nat) (hj : j < (zs.map f).length) : ∃ x, (zs.map f).getD j undef = f x := by
  simp at hj
  exact ⟨zs[j], by simp [hj]⟩
end

/-- .. of slices of ints cloned: 'us'' are the clones. -/
def LMade (n : Nat) (cs : List (List Int)) (w : World) (e : Ending) (w' : World) : Prop :=
  ∃ a c us, e = .returned (.slice a n c) ∧ us.length = n ∧ Row 0 w' a us ∧ (∀ j, j < n → IsI 0 w' (us.getD j undef) (cs.getD j [])) ∧ Below w.heap.size w w'
theorem clone7_arg {w : World} {a : Option Addr} {c : Nat} {us : List Value} {cs : List (List Int)} (h : ArgL .i64 w a c us cs) (hz : us.length ≤ 10000000) (hlen : ∀ j, j < us.length → (cs.getD j []).length ≤ 10000000) :
    Calls Try.prog 7 #[.slice a us.length c] w (LMade us.length cs w) := by
  refine (clone7_any (.slice a us.length c) us (cs.map (·.map (Value.int .i64))) w 0 hz (by simpa using h.cl) ⟨a, c, rfl, h.nil, h.row⟩ ?_ ?_ ?_).mono ?_
  · intro i hi j hj
    rw [getD_map_map] at hj ⊢
    exact shape_map _ _ _ hj
  · intro i hi
    rw [getD_map_map, List.length_map]
    exact hlen i hi
  · intro i hi
    rw [getD_map_map]
    exact (h.each i hi).1
  · rintro e w' ⟨v, us', rfl, hl, hown, hin, hb⟩
    obtain ⟨a', c', rfl, _, hr⟩ := hown.is
    have hcl := h.cl
    have hl' : us'.length = us.length := by rw [hl]; simpa using hcl
    refine ⟨a', c', us', by rw [hl'], hl', hr.mono (Nat.zero_le _), fun j hj => ?_, hb⟩
    have := hin j (by simpa [hcl] using hj)
    rw [getD_map_map] at this
    exact this.mono (Nat.zero_le _)

/-- A clone of a slice of ints. -/
def IMade (zs : List Int) (w : World) (e : Ending) (w' : World) : Prop := ∃ a c, e = .returned (.slice a zs.length c) ∧ Row 0 w' a (ivs zs) ∧ (a = none → ivs zs = [] ∧ c = 0) ∧ Below w.heap.size w w'
theorem clone10_arg {w : World} {a : Option Addr} {c : Nat} {zs : List Int} (hr : Row 0 w a (ivs zs)) (hn : a = none → ivs zs = [] ∧ c = 0) (hz : zs.length ≤ 10000000) :
    Calls Try.prog 10 #[.slice a zs.length c] w (IMade zs w) := by
  refine (clone10_any (.slice a zs.length c) (ivs zs) w 0 (by rw [ivs_len]; exact hz) (fun j hj => shape_map _ _ _ hj) ⟨a, c, by rw [ivs_len], hn, hr⟩).mono ?_
  rintro e w' ⟨v, rfl, hown, hb⟩
  obtain ⟨a', c', rfl, hn', hr'⟩ := hown.is
  exact ⟨a', c', by rw [ivs_len], hr'.mono (Nat.zero_le _), hn', hb⟩

/-- has12 without flags and values. -/
theorem has12_bare (us : List Value) (a0 a3 : Option Addr) (c0 c3 n m : Nat) (cs : List (List Int)) (ys : List Int) (w : World) (hn : us.length = n) (hm : ys.length = m) (hz : n ≤ 10000000) (hy : m ≤ 10000000)
    (hcl : cs.length = n) (hlen : ∀ j, j < n → (cs.getD j []).length ≤ 10000000)
    (h0 : Row 0 w a0 us) (h3 : Row 0 w a3 (ivs ys)) (hin : ∀ j, j < n → IsI 0 w (us.getD j undef) (cs.getD j [])) :
    Calls Try.prog 12 #[.slice a0 n c0, .slice none 0 0, .slice none 0 0, .slice a3 m c3] w (SaysB (cs.any (· == ys)) w) := by
  subst hn
  subst hm
  exact has12 us [] [] a0 none none a3 c0 0 0 c3 cs ys w 0 0 hz (by simp) (by simp) hy hcl hlen h0 (Row.nil _ _ _) (Row.nil _ _ _) h3 hin (by simp) (by simp)
end Go.Proofs.Qxb6604382a
