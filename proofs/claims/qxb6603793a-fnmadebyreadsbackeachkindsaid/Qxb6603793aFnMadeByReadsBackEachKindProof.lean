import Derived.Test.Qxb6603793aRows
import Derived.Test.Qxb6603793aMade
import Derived.WalkKit
import Derived.ProofKit
import Derived.OpenShut
import Derived.ShutString
namespace Go.Proofs.Qxb6603793a.fnMadeByReadsBackEachKind
open Go.ChangeShapes Go.WideShapes Go.ChangeAt Go.RowKit
open Go.ChangeMaps (open_string shut_string)
set_option linter.unusedVariables false      -- a walk need not use every 'w<i>' (that an integer argument fits its kind)

theorem own : ownKnob Try.prog.godebug = none := by kernel_rfl

theorem data_append (a b : ByteArray) : (a ++ b).data.toList = a.data.toList ++ b.data.toList := by
  rw [ByteArray.data_append, Array.toList_append]
theorem pre_append (p a : ByteArray) : pre (p ++ a) p = true := by
  unfold pre Lib.hasPrefix
  rw [data_append, List.isPrefixOf_iff_prefix]
  exact List.prefix_append _ _
theorem rest_append (p a : ByteArray) : Qxb6603793a.rest (p ++ a) p = a := by
  have h := pre_append p a
  unfold pre at h
  unfold Qxb6603793a.rest Lib.trimPrefix
  rw [if_pos h, data_append, List.drop_left, Lib.mk_data]
theorem pre_alone (a : ByteArray) : pre (bAlone ++ a) bFounding = false := by
  unfold pre Lib.hasPrefix
  rw [data_append]
  rfl
theorem made_f (a : ByteArray) (w : World) : Calls Try.prog 11 #[.string ({ data := #[102, 111, 117, 110, 100, 105, 110, 103, 32] } ++ a)] w fun e w' => e = .returned (.tuple #[.string { data := #[102, 111, 117, 110, 100, 101, 100, 32, 97, 115] }, .string a]) ∧ w' = w := by
  have h := made_any (bFounding ++ a) w
  unfold how by_ at h
  rw [pre_append, rest_append, if_pos rfl, if_pos rfl] at h
  exact h
theorem made_a (a : ByteArray) (w : World) : Calls Try.prog 11 #[.string ({ data := #[97, 108, 111, 110, 101, 32] } ++ a)] w fun e w' => e = .returned (.tuple #[.string { data := #[103, 111, 110, 101, 32, 111, 110, 32, 97, 108, 111, 110, 101, 32, 97, 115] }, .string a]) ∧ w' = w := by
  have h := made_any (bAlone ++ a) w
  unfold how by_ at h
  simp only [pre_alone, pre_append, rest_append, if_true, Bool.false_eq_true, if_false] at h
  exact h

/-! ### STEP 1: THE WALK: the Go text returns true. 'Grown w w'': the world has at most new blocks (Derived/RowKit3.lean). Part the cases AHEAD of 'go_enter' where a test parts the walk; take each callee by a contract of your own. -/
theorem walk (a0 : ByteArray) (w0 : a0.size ≤ maxLen) (w : World) :
    Calls Try.prog 5 #[.string a0] w fun e w' => e = .returned (.bool true) ∧ Grown w w' := by
  have hb := fun w => bytes13 a0 w
  go_enter Try.func5, Try.ntmps5
  by_cases h : a0.size ≤ 1048576
  · rw [decide_eq_true h] at hb
    go_wp2_with fail
    refine (hb _).mono ?_
    rintro e w' ⟨rfl, rfl⟩
    go_wp2_with fail
    refine (made_f a0 _).mono ?_
    rintro e w' ⟨rfl, rfl⟩
    go_wp2_with fail
    refine (made_a a0 _).mono ?_
    rintro e w' ⟨rfl, rfl⟩
    go_wp2_with fail
    go_ret
    exact ⟨rfl, Grown.refl _⟩
  · rw [decide_eq_false h] at hb
    go_wp2_with fail
    refine (hb _).mono ?_
    rintro e w' ⟨rfl, rfl⟩
    go_wp2_with fail
    go_ret
    exact ⟨rfl, Grown.refl _⟩

/-! ### THE ROW's STEP: WRITTEN OUT: LEAVE IT -/
set_option maxRecDepth 100000 in
theorem lifted (os : Os) (started : os.Started) (H : Type) (enc : TypeId × Value → H) :
    ReturnsInHanded {} Try.checked os 5 .any (Rows.fnMadeByReadsBackEachKindSpec.pre6 enc Try.prog Try.f5 Rows.fnMadeByReadsBackEachKindRow.domain false) (Rows.fnMadeByReadsBackEachKindSpec.post enc Try.prog Try.f5 false true false false) := by
  refine returnsInHanded_of_change (C := Try.checked) own started (by kernel_rfl) Try.func5
    (ChangeSpec.witness6 (enc := enc) (C := Try.checked) false ⟨#[], #[.string ByteArray.empty], []⟩ 8 (by kernel_rfl) (by kernel_rfl) (by kernel_rfl) (by kernel_rfl)) ?_
  intro W base args ds gs before hval0 hW hcnd _
  have hval : ∀ (j : Nat) t v, Try.f5.params[j]? = some t → args[j]? = some v → Value.okWide Try.prog W .any base t v := hval0
  have hW' := hW
  obtain ⟨p, q, hA0, hV, rfl, hfz, hnd⟩ := hW
  have hA : DataW.TrodAll enc Try.prog W 0 (fun _ => true) true Try.f5.params.toList args.toList ds p := hA0
  rw [Try.params5] at hA hval
  obtain ⟨v0, vs0, d0, ds0, p0, q0, hargs, rfl, rfl, h0, r0⟩ := trodAll_cons hA
  obtain ⟨rfl, rfl, rfl⟩ := trodAll_nil r0
  obtain rfl : args = #[v0] := by cases args; simp_all
  obtain ⟨rfl, rfl⟩ := trodVars_none hV
  obtain ⟨a0, rfl, rfl, rfl, w0⟩ := open_string Try.underlying9 (hval 0 9 v0 rfl rfl) h0
  clear hA0 hval0
  simp only [List.append_nil] at hW'
  refine (walk a0 w0 W).mono fun e W' ⟨he, hg⟩ => ?_
  subst he
  exact ⟨_, rfl, post_of_same (pa := []) (pv := []) hW' (fun _ _ _ => (trodAll_cons_mk (shut_bool Try.underlying4 _) trodAll_mk0)) (fun sp _ => (trodAll_cons_mk (shut_string Try.underlying9 w0) trodAll_mk0)) (fun _ _ => rfl) rfl
    (hg.frame _) hg.2.1 (ok_one (by kernel_rfl) rfl (okWide_bool_mk Try.underlying4 _))⟩

theorem over : Rows.fnMadeByReadsBackEachKindRow.holds Try.pinned (OpenSpec.ofChange Rows.fnMadeByReadsBackEachKindSpec) :=
  OpenClaim.holds_of_wide 5 Try.f5 rfl rfl rfl rfl rfl rfl rfl ⟨rfl, rfl, rfl, rfl, rfl⟩ rfl rfl rfl rfl rfl (by kernel_rfl) Try.func5 (by kernel_rfl)
    (of_decide_eq_true (by kernel_rfl)) (by unfold Func.isWrapper; first | (rw [if_pos (by decide +kernel)]; kernel_rfl) | (rw [if_neg (by decide +kernel)]; exact ⟨rfl, rfl⟩))
    (fun os started H enc _ => lifted os started H enc)

/-- ████ THE STATEMENT ████ -/
theorem proved : Rows.FnMadeByReadsBackEachKindSaid :=
  over
end Go.Proofs.Qxb6603793a.fnMadeByReadsBackEachKind
