import Derived.Test.Qxb6603793aRows
import Derived.Test.Qxb6603793aMade
import Derived.Deep.QuietTactic
import Derived.BigQuiet
import Derived.WalkKit
import Derived.ProofKit
import Derived.OpenShut
import Derived.ShutString
namespace Go.Proofs.Qxb6603793a.fnMadeByRebuildsTheMark
open Go.ChangeShapes Go.WideShapes Go.ChangeAt Go.RowKit
open Go.ChangeMaps (open_string shut_string)
set_option linter.unusedVariables false      -- a walk need not use every 'w<i>' (that an integer argument fits its kind)

theorem own : ownKnob Try.prog.godebug = none := by kernel_rfl

/-- The answer of hasPrefix_mb1. -/
def PreSays (s p : ByteArray) (e : Ending) : Prop := e = .returned (.bool (pre s p))
theorem pre_miss (s p : ByteArray) (i : Nat) (h1 : i < p.size) (h2 : i < s.size) (h : s.data.toList[i]? ≠ p.data.toList[i]?) : pre s p = false := by
  unfold pre Lib.hasPrefix
  rw [Bool.eq_false_iff]
  intro hp
  rw [List.isPrefixOf_iff_prefix] at hp
  obtain ⟨t, ht⟩ := hp
  rw [← ht, List.getElem?_append_left (by rw [Array.length_toList]; exact h1)] at h
  exact h rfl
theorem pre_short (s p : ByteArray) (h : s.size < p.size) : pre s p = false := by
  unfold pre Lib.hasPrefix
  rw [Bool.eq_false_iff]
  intro hp
  rw [List.isPrefixOf_iff_prefix] at hp
  have := hp.length_le
  rw [Array.length_toList, Array.length_toList] at this
  have h2 : s.data.size < p.data.size := h
  omega
theorem pre_hit (s p : ByteArray) (h : p.size ≤ s.size) (hall : ∀ i, i < p.size → s.data.toList[i]? = p.data.toList[i]?) : pre s p = true := by
  unfold pre Lib.hasPrefix
  rw [List.isPrefixOf_iff_prefix]
  rw [List.prefix_iff_eq_take]
  apply List.ext_getElem?
  intro i
  rw [List.getElem?_take]
  by_cases hi : i < p.size
  · rw [if_pos (by rw [Array.length_toList]; exact hi), hall i hi]
  · rw [if_neg (by rw [Array.length_toList]; exact hi), List.getElem?_eq_none (by rw [Array.length_toList]; exact Nat.le_of_not_lt hi)]

theorem has_says (s p : ByteArray) (w : World) (hs : s.size ≤ 2000000) (hp : p.size ≤ 100) : Calls Try.prog 12 #[.string s, .string p] w fun e w' => PreSays s p e ∧ Grown w w' := by
  go_enter Try.func12, Try.ntmps12
  by_cases h : s.size < p.size
  · go_wp2
    go_ret
    exact ⟨by unfold PreSays; rw [pre_short s p h]; rfl, Grown.refl _⟩
  · go_wp2
    go_loopw [5] (fun i wr => ∃ k : Nat, k ≤ p.size ∧ i = .int .i64 k ∧ (∀ j, j < k → s.data.toList[j]? = p.data.toList[j]?) ∧ Grown w wr) (fun i _ => p.size - (Lib.intOf i).toNat)
    case atStart => exact ⟨0, Nat.zero_le _, rfl, fun j hj => by omega, Grown.refl _⟩
    case round =>
      obtain ⟨k, hk, rfl, hall, hg⟩ := hrel
      by_cases hkn : k < p.size
      · have hks : k < s.size := by omega
        go_wp2
        go_quiet (fail)
        have es : s.data.toList[k]? = some s[k] := by
          rw [Array.getElem?_toList]; exact Array.getElem?_eq_getElem hks
        have ep : p.data.toList[k]? = some p[k] := by
          rw [Array.getElem?_toList]; exact Array.getElem?_eq_getElem hkn
        have hg2 : Grown w (wr.drewN nq) := hg
        by_cases he : s[k] = p[k]
        · have hb : ((s[k].toNat : Int) != (p[k].toNat : Int)) = false := by rw [he]; simp
          go_wp2
          refine ⟨⟨k + 1, hkn, rfl, fun j hj => ?_, hg2⟩, ?_⟩
          · by_cases hjk : j = k
            · subst hjk; rw [es, ep, he]
            · exact hall j (by omega)
          · simp [Lib.intOf]; omega
        · have hb : ((s[k].toNat : Int) != (p[k].toNat : Int)) = true := by
            simp only [bne_iff_ne, ne_eq, Int.natCast_inj]
            exact fun e => he (UInt8.toNat_inj.1 e)
          go_wp2
          go_ret
          exact ⟨by unfold PreSays; rw [pre_miss s p k hkn hks (by rw [es, ep]; simpa using he)]; rfl, hg2⟩
      · have hkp : k = p.size := by omega
        subst hkp
        go_wp2
        go_ret
        exact ⟨by unfold PreSays; rw [pre_hit s p (by omega) hall]; rfl, hg⟩

theorem has_any (s p : ByteArray) (w : World) (hs : s.size ≤ 2000000) (hp : p.size ≤ 100) : Calls Try.prog 12 #[.string s, .string p] w fun e w' => e = .returned (.bool (pre s p)) ∧ Grown w w' := has_says s p w hs hp

theorem put_back (s p : ByteArray) (h : pre s p = true) : p ++ Qxb6603793a.rest s p = s := by
  unfold Qxb6603793a.rest Lib.trimPrefix
  have h1 := h
  unfold pre at h
  rw [if_pos h]
  unfold Lib.hasPrefix at h
  rw [List.isPrefixOf_iff_prefix] at h
  obtain ⟨t, ht⟩ := h
  apply ByteArray.ext
  apply Array.toList_inj.1
  rw [ByteArray.data_append, Array.toList_append, ← ht, List.drop_left]

theorem rest_size (s p : ByteArray) : (Qxb6603793a.rest s p).size ≤ s.size := by
  have := Lib.trimPrefix_le s.data.toList p.data.toList
  rw [Lib.size_eq, Lib.size_eq]
  exact this

/-! ### STEP 1: THE WALK: the Go text returns true. 'Grown w w'': the world has at most new blocks (Derived/RowKit3.lean). Part the cases AHEAD of 'go_enter' where a test parts the walk; take each callee by a contract of your own. -/
theorem walk (a0 : ByteArray) (w0 : a0.size ≤ maxLen) (w : World) :
    Calls Try.prog 4 #[.string a0] w fun e w' => e = .returned (.bool true) ∧ Grown w w' := by
  have hb := fun w => bytes10 a0 w
  by_cases h : a0.size ≤ 1048576
  · rw [decide_eq_true h] at hb
    have hm := fun w => made_any a0 w
    have hF := fun w => has_any a0 bFounding w (by omega) (by decide)
    have hA := fun w => has_any a0 bAlone w (by omega) (by decide)
    cases hpF : pre a0 bFounding
    · cases hpA : pre a0 bAlone
      · by_cases hN : a0 = bNone
        · subst hN
          have e1 : how bNone = bNone := rfl
          have e2 : by_ bNone = bNone := rfl
          rw [e1, e2] at hm
          unfold bNone at hm hb ⊢
          go_enter Try.func4, Try.ntmps4
          go_wp2_with fail
          refine (hb _).mono ?_
          rintro e w' ⟨rfl, rfl⟩
          go_wp2_with fail
          refine (hm _).mono ?_
          rintro e w' ⟨rfl, rfl⟩
          go_wp2_with fail
          go_ret
          exact ⟨rfl, Grown.refl _⟩
        · have e1 : how a0 = bRestored := by simp [how, hpF, hpA, hN]
          have e2 : by_ a0 = a0 := by simp [by_, hpF, hpA, hN]
          have hne : a0.toList.isEmpty = false := by
            rw [Bool.eq_false_iff]; intro hh; exact hN ((none_iff _).2 hh)
          rw [e1, e2] at hm
          unfold bRestored at hm
          rw [hpF] at hF
          rw [hpA] at hA
          go_enter Try.func4, Try.ntmps4
          go_wp2_with fail
          refine (hb _).mono ?_
          rintro e w' ⟨rfl, rfl⟩
          go_wp2_with fail
          refine (hm _).mono ?_
          rintro e w' ⟨rfl, rfl⟩
          go_wp2_with fail
          refine (hF _).mono ?_
          rintro e w1 ⟨rfl, hg1⟩
          go_wp2_with fail
          refine (hA _).mono ?_
          rintro e w2 ⟨rfl, hg2⟩
          go_wp2_with fail
          go_ret
          exact ⟨rfl, World.keptBut_trans hg1.1 hg2.1, fun a => (hg2.2.1 a).trans (hg1.2.1 a), Nat.le_trans hg1.2.2 hg2.2.2⟩
      · have e1 : how a0 = bGone := by simp [how, hpF, hpA]
        have e2 : by_ a0 = Qxb6603793a.rest a0 bAlone := by simp [by_, hpF, hpA]
        have e3 := put_back a0 bAlone hpA
        rw [e1, e2] at hm
        have hsz := rest_size a0 bAlone
        generalize Qxb6603793a.rest a0 bAlone = r at *
        unfold bGone at hm
        unfold bAlone at e3
        rw [hpF] at hF
        go_enter Try.func4, Try.ntmps4
        go_wp2_with fail
        refine (hb _).mono ?_
        rintro e w' ⟨rfl, rfl⟩
        go_wp2_with fail
        refine (hm _).mono ?_
        rintro e w' ⟨rfl, rfl⟩
        go_wp2_with fail
        refine (hF _).mono ?_
        rintro e w1 ⟨rfl, hg1⟩
        go_wp2_with fail
        go_ret
        exact ⟨rfl, hg1⟩
    · have e1 : how a0 = bFounded := by simp [how, hpF]
      have e2 : by_ a0 = Qxb6603793a.rest a0 bFounding := by simp [by_, hpF]
      have e3 := put_back a0 bFounding hpF
      rw [e1, e2] at hm
      have hsz := rest_size a0 bFounding
      generalize Qxb6603793a.rest a0 bFounding = r at *
      unfold bFounded at hm
      unfold bFounding at e3
      go_enter Try.func4, Try.ntmps4
      go_wp2_with fail
      refine (hb _).mono ?_
      rintro e w' ⟨rfl, rfl⟩
      go_wp2_with fail
      refine (hm _).mono ?_
      rintro e w' ⟨rfl, rfl⟩
      go_wp2_with fail
      go_ret
      exact ⟨rfl, Grown.refl _⟩
  · rw [decide_eq_false h] at hb
    go_enter Try.func4, Try.ntmps4
    go_wp2_with fail
    refine (hb _).mono ?_
    rintro e w' ⟨rfl, rfl⟩
    go_wp2_with fail
    go_ret
    exact ⟨rfl, Grown.refl _⟩

/-! ### THE ROW's STEP: WRITTEN OUT: LEAVE IT -/
set_option maxRecDepth 100000 in
theorem lifted (os : Os) (started : os.Started) (H : Type) (enc : TypeId × Value → H) :
    ReturnsInHanded {} Try.checked os 4 .any (Rows.fnMadeByRebuildsTheMarkSpec.pre6 enc Try.prog Try.f4 Rows.fnMadeByRebuildsTheMarkRow.domain false) (Rows.fnMadeByRebuildsTheMarkSpec.post enc Try.prog Try.f4 false true false false) := by
  refine returnsInHanded_of_change (C := Try.checked) own started (by kernel_rfl) Try.func4
    (ChangeSpec.witness6 (enc := enc) (C := Try.checked) false ⟨#[], #[.string ByteArray.empty], []⟩ 8 (by kernel_rfl) (by kernel_rfl) (by kernel_rfl) (by kernel_rfl)) ?_
  intro W base args ds gs before hval0 hW hcnd _
  have hval : ∀ (j : Nat) t v, Try.f4.params[j]? = some t → args[j]? = some v → Value.okWide Try.prog W .any base t v := hval0
  have hW' := hW
  obtain ⟨p, q, hA0, hV, rfl, hfz, hnd⟩ := hW
  have hA : DataW.TrodAll enc Try.prog W 0 (fun _ => true) true Try.f4.params.toList args.toList ds p := hA0
  rw [Try.params4] at hA hval
  obtain ⟨v0, vs0, d0, ds0, p0, q0, hargs, rfl, rfl, h0, r0⟩ := trodAll_cons hA
  obtain ⟨rfl, rfl, rfl⟩ := trodAll_nil r0
  obtain rfl : args = #[v0] := by cases args; simp_all
  obtain ⟨rfl, rfl⟩ := trodVars_none hV
  obtain ⟨a0, rfl, rfl, rfl, w0⟩ := open_string Try.underlying9 (hval 0 9 v0 rfl rfl) h0
  clear hA0 hval0
  simp only [List.append_nil] at hW'
  refine (walk a0 w0 W).mono fun e W' ⟨he, hg⟩ => ?_
  subst he
  exact ⟨_, rfl, post_of_same (pa := []) (pv := []) hW' (fun _ _ _ => (trodAll_cons_mk (shut_bool Try.underlying4 _) trodAll_mk0)) (fun sp _ => (trodAll_cons_mk (shut_string Try.underlying9 w0) trodAll_mk0)) (fun _ _ => rfl) rfl
    (hg.frame _) hg.2.1 (ok_one (by kernel_rfl) rfl (okWide_bool_mk Try.underlying4 _))⟩

theorem over : Rows.fnMadeByRebuildsTheMarkRow.holds Try.pinned (OpenSpec.ofChange Rows.fnMadeByRebuildsTheMarkSpec) :=
  OpenClaim.holds_of_wide 4 Try.f4 rfl rfl rfl rfl rfl rfl rfl ⟨rfl, rfl, rfl, rfl, rfl⟩ rfl rfl rfl rfl rfl (by kernel_rfl) Try.func4 (by kernel_rfl)
    (of_decide_eq_true (by kernel_rfl)) (by unfold Func.isWrapper; first | (rw [if_pos (by decide +kernel)]; kernel_rfl) | (rw [if_neg (by decide +kernel)]; exact ⟨rfl, rfl⟩))
    (fun os started H enc _ => lifted os started H enc)

/-- ████ THE STATEMENT ████ -/
theorem proved : Rows.FnMadeByRebuildsTheMarkSaid :=
  over
end Go.Proofs.Qxb6603793a.fnMadeByRebuildsTheMark
