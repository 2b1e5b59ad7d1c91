import Derived.Test.Qxb6603793aCut
import Derived.Test.Qxb6603793aRows
import Derived.WalkKit
import Derived.ProofKit
import Derived.OpenShut
import Derived.ShutString
namespace Go.Proofs.Qxb6603793a
open Go.RowKit
set_option linter.unusedVariables false

def bFounding : ByteArray := { data := #[102, 111, 117, 110, 100, 105, 110, 103, 32] }
def bAlone : ByteArray := { data := #[97, 108, 111, 110, 101, 32] }
def bFounded : ByteArray := { data := #[102, 111, 117, 110, 100, 101, 100, 32, 97, 115] }
def bGone : ByteArray := { data := #[103, 111, 110, 101, 32, 111, 110, 32, 97, 108, 111, 110, 101, 32, 97, 115] }
def bRestored : ByteArray := { data := #[114, 101, 115, 116, 111, 114, 101, 100, 32, 102, 114, 111, 109] }
def bNone : ByteArray := { data := #[] }
def pre (s p : ByteArray) : Bool := Lib.hasPrefix s.data.toList p.data.toList
def rest (s p : ByteArray) : ByteArray := ⟨(Lib.trimPrefix s.data.toList p.data.toList).toArray⟩

theorem cut_any (s p : ByteArray) (w : World) : Calls Try.prog 38 #[.string s, .string p] w fun e w' => e = .returned (.tuple #[.string (rest s p), .bool (pre s p)]) ∧ w' = w := Try.strings_CutPrefix s p w

/-- What MadeBy answers. -/
def how (s : ByteArray) : ByteArray := if pre s bFounding = true then bFounded else if pre s bAlone = true then bGone else if s = bNone then bNone else bRestored
def by_ (s : ByteArray) : ByteArray := if pre s bFounding = true then rest s bFounding else if pre s bAlone = true then rest s bAlone else if s = bNone then bNone else s

theorem none_iff (s : ByteArray) : s = bNone ↔ s.toList.isEmpty = true := by
  rw [ByteArray.toList_eq]
  obtain ⟨⟨l⟩⟩ := s
  simp [bNone]

/-- .. hidden from the walk. -/
def MadeSays (s : ByteArray) (e : Ending) : Prop := e = .returned (.tuple #[.string (how s), .string (by_ s)])

theorem made_says (s : ByteArray) (w : World) : Calls Try.prog 11 #[.string s] w fun e w' => MadeSays s e ∧ w' = w := by
  obtain ⟨f, hf⟩ : ∃ f, pre s bFounding = f := ⟨_, rfl⟩
  obtain ⟨g, hg⟩ : ∃ g, pre s bAlone = g := ⟨_, rfl⟩
  have h1 := fun w => cut_any s bFounding w
  have h2 := fun w => cut_any s bAlone w
  rw [hf] at h1
  rw [hg] at h2
  go_enter Try.func11, Try.ntmps11
  cases f <;> cases g
  all_goals
    go_wp2_with fail
    refine (h1 _).mono ?_
    rintro e w' ⟨rfl, rfl⟩
    go_wp2_with fail
    refine (h2 _).mono ?_
    rintro e w' ⟨rfl, rfl⟩
    go_wp2_with fail
  all_goals
    go_ret2
    refine ⟨?_, rfl⟩
    unfold MadeSays how by_
    rw [hf, hg]
  all_goals first
    | (have hh := ‹s.toList.isEmpty = true›; rw [← none_iff] at hh; subst hh; simp; rfl)
    | (have hh := ‹s.toList.isEmpty = false›; have hn : ¬ s = bNone := by rw [none_iff, hh]; simp
       simp [hn]; rfl)
    | (simp; rfl)

theorem made_any (s : ByteArray) (w : World) : Calls Try.prog 11 #[.string s] w fun e w' => e = .returned (.tuple #[.string (how s), .string (by_ s)]) ∧ w' = w := made_says s w

theorem bytes13 (s : ByteArray) (w : World) : Calls Try.prog 13 #[.string s] w fun e w' => e = .returned (.bool (decide (s.size ≤ 1048576))) ∧ w' = w := by
  go_enter Try.func13, Try.ntmps13
  by_cases h : s.size ≤ 1048576
  · go_wp2
    go_ret
    simp [h]
  · go_wp2
    go_ret
    simp [h]
theorem bytes10 (s : ByteArray) (w : World) : Calls Try.prog 10 #[.string s] w fun e w' => e = .returned (.bool (decide (s.size ≤ 1048576))) ∧ w' = w := by
  go_enter Try.func10, Try.ntmps10
  by_cases h : s.size ≤ 1048576
  · go_wp2
    go_ret
    simp [h]
  · go_wp2
    go_ret
    simp [h]
end Go.Proofs.Qxb6603793a
