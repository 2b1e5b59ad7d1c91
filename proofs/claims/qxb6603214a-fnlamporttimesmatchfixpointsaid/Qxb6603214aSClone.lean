import Derived.Test.Qxb6603214aOwn
namespace Go.Proofs.Qxb6603214a
open Go.RowKit Go.Maps
set_option linter.unusedVariables false

def RowMade (zs : List Int) (w : World) (e : Ending) (w' : World) : Prop :=
  ∃ g cap, e = .returned (.slice (some ⟨g, 0, none⟩) zs.length cap) ∧ IRow w' g cap zs ∧ w.heap.size ≤ g ∧ Below w.heap.size w w'

set_option maxHeartbeats 400000 in
theorem sclone_some (ad : Addr) (c : Nat) (zs : List Int) (w : World) (hz : zs.length ≤ 5000) (hc : Ints w (some ad) zs) :
    Calls Try.prog 42 #[.slice (some ad) zs.length c] w (RowMade zs w) := by
  have hnil := fun w => Lib.run_eql_slice_nil (P := Try.prog) w 23 3 (some ad) zs.length c 0 0 Try.underlying23
  have hrow0 : IRow (w.alloc (.cells #[] 3)) w.heap.size 0 [] := by
    have := Arr.new w #[] 3
    exact IRow.of_arr (zs := []) this (Nat.zero_le _)
  go_enter Try.func42, Try.ntmps42
  go_wp2_with (at_builtin; refine wpList_iappendX rfl _ _ rfl w.heap.size 0 [] (some ad) c zs rfl hrow0 rfl (by simp) (hc.alloc _) (by simp; omega) ?_; intro g' cap' w1 hrow hgrow hloc; rw [List.nil_append] at hrow; rw [List.nil_append])
  go_ret
  refine ⟨g', cap', rfl, hrow, (by
    rcases hloc with h | h
    · omega
    · simp at h; omega), ?_⟩
  exact ((Below.refl _ _).alloc (Nat.le_refl _) _).grown hgrow (by simp) (fun k hk => by cases hk; exact Nat.le_refl _)
theorem sclone_at (ad : Addr) (c n : Nat) (zs : List Int) (w : World) (hn : zs.length = n) (hz : n ≤ 5000) (hc : Ints w (some ad) zs) :
    Calls Try.prog 42 #[.slice (some ad) n c] w fun e w' => ∃ g cap, e = .returned (.slice (some ⟨g, 0, none⟩) n cap) ∧ IRow w' g cap zs ∧ w.heap.size ≤ g ∧ Below w.heap.size w w' := by
  subst hn
  exact sclone_some ad c zs w hz hc
end Go.Proofs.Qxb6603214a
