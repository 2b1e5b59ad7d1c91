import Derived.Test.Qxb6603214aClone2
import Derived.Test.Qxb6603214aBytes
namespace Go.Proofs.Qxb6603214a
open Go.RowKit
set_option linter.unusedVariables false

/-- A slice of numbers as it comes in: it reads as 'zs'; nil has no element and no room. -/
structure ArgI (w : World) (a : Option Addr) (c : Nat) (zs : List Int) : Prop where
  ints : Ints w a zs
  nil : a = none → zs = [] ∧ c = 0
  len : zs.length ≤ maxLen
structure ArgS (w : World) (a : Option Addr) (c : Nat) (ss : List ByteArray) : Prop where
  strs : Strs w a ss
  nil : a = none → ss = [] ∧ c = 0
  len : ss.length ≤ maxLen
  each : ∀ s ∈ ss, s.size ≤ maxLen

/-- The law's answer: true; no old memory has turned. -/
def LawTrue (w : World) (e : Ending) (w' : World) : Prop := e = .returned (.bool true) ∧ Below w.heap.size w w'
theorem LawTrue.mk {w w' : World} (h : Below w.heap.size w w') : LawTrue w (.returned (.bool true)) w' := ⟨rfl, h⟩

/-- A clone, its shape written out. -/
def ClonedS (zs : List Int) (n : Nat) (w : World) (e : Ending) (w' : World) : Prop := ∃ a c, e = .returned (.slice a n c) ∧ Ints w' a zs ∧ (a = none → zs = [] ∧ c = 0) ∧ Below w.heap.size w w'
/-- A clone that is not empty. -/
def ClonedN (zs : List Int) (n : Nat) (w : World) (e : Ending) (w' : World) : Prop := ∃ g, e = .returned (.slice (some ⟨g, 0, none⟩) n n) ∧ IArr w' g zs ∧ Below w.heap.size w w'

theorem cloneInts_arg (a : Option Addr) (c n : Nat) (zs : List Int) (w : World) (hn : zs.length = n) (hz : n ≤ 5000) (hc : Ints w a zs) (hnil : a = none → zs = [] ∧ c = 0) :
    Calls Try.prog 12 #[.slice a n c] w (ClonedS zs n w) := by
  subst hn
  refine (cloneInts_any a c zs w hz hc hnil).mono ?_
  rintro e w' ⟨v, rfl, ho, hb⟩
  rcases ho with ⟨rfl, rfl⟩ | ⟨g, rfl, hg⟩
  · exact ⟨none, 0, rfl, Ints.nil _ _, fun _ => ⟨rfl, rfl⟩, hb⟩
  · exact ⟨_, _, rfl, hg.ints, fun h => (by cases h), hb⟩
theorem cloneInts_ne (a : Option Addr) (c n : Nat) (zs : List Int) (w : World) (hn : zs.length = n) (hz : n ≤ 5000) (h0 : 0 < n) (hc : Ints w a zs) (hnil : a = none → zs = [] ∧ c = 0) :
    Calls Try.prog 12 #[.slice a n c] w (ClonedN zs n w) := by
  subst hn
  refine (cloneInts_any a c zs w hz hc hnil).mono ?_
  rintro e w' ⟨v, rfl, ho, hb⟩
  rcases ho with ⟨rfl, rfl⟩ | ⟨g, rfl, hg⟩
  · simp at h0
  · exact ⟨g, rfl, hg, hb⟩
theorem equalInts_len (a a' : Option Addr) (c c' n : Nat) (zs : List Int) (w : World) (hn : zs.length = n) (hz : n ≤ 5000) (h1 : Ints w a zs) (h2 : Ints w a' zs) :
    Calls Try.prog 15 #[.slice a n c, .slice a' n c'] w fun e w' => e = .returned (.bool true) ∧ Below w.heap.size w w' := by
  subst hn
  exact equalInts_same a a' c c' zs w hz h1 h2
end Go.Proofs.Qxb6603214a
