import Derived.Test.Qxb6603214aMem
import Derived.OrdersHeld
import Derived.RegionTactic
namespace Go.Proofs.Qxb6603214a
open Go Go.RowKit
set_option linter.unusedVariables false

/-! ### A region that draws its order, whose last operation (number 'lst') alone may turn what the others read -/
section
variable {P : Program} {ops : Array Oper} {Q : Exit → Act → World → Prop} {md : Region.Mode} {S : World → Prop} {lst : Nat}

/-- Whatever order is picked from here on; behind every operation but number 'lst' S holds. -/
def wpL (P : Program) (md : Region.Mode) (ops : Array Oper) (Q : Exit → Act → World → Prop) (S : World → Prop) (lst : Nat) : Nat → Array Bool → Act → World → Prop
  | 0, listed, a, w => Region.ready md ops listed = [] ∧ Q .normal a w
  | fuel + 1, listed, a, w =>
    (Region.ready md ops listed = [] → Q .normal a w) ∧
    ∀ i ∈ Region.ready md ops listed, wpOp P ops Q i (fun a' w' => (i ≠ lst → S w') ∧ wpL P md ops Q S lst fuel (listed.setIfInBounds i true) a' w') a w

theorem wpAny_of_L : ∀ (fuel : Nat) (listed : Array Bool) (a : Act) (w : World), wpL P md ops Q S lst fuel listed a w → wpAny P md ops Q fuel listed a w
  | 0, _, _, _, h => h
  | fuel + 1, _, _, _, h => ⟨h.1, fun i hi => wpOp_mono (fun a' w' h' => wpAny_of_L fuel _ a' w' h'.2) (h.2 i hi)⟩

/-- What has come up holds whatever it waits for. -/
def Clo (md : Region.Mode) (ops : Array Oper) (listed : Array Bool) : Prop := ∀ j o, ops[j]? = some o → listed.getD j false = true → ∀ e ∈ o.after, Region.binds md e = true → listed.getD e.on false = true
theorem Clo.add {listed : Array Bool} {j : Nat} (h : Clo md ops listed) (hj : j ∈ Region.ready md ops listed) : Clo md ops (listed.setIfInBounds j true) := by
  intro k o hk hl e he hb
  by_cases e1 : j = k
  · subst e1
    obtain ⟨_, o', ho', hall⟩ := mem_ready.1 hj
    rw [hk] at ho'
    cases ho'
    exact getD_set_true (hall e he hb)
  · rw [getD_set_ne false e1] at hl
    exact getD_set_true (h k o hk hl e he hb)
theorem clo_none (n : Nat) : Clo md ops (Array.replicate n false) := by
  intro j o _ hl
  exfalso
  by_cases hj : j < n
  · simp [hj] at hl
  · simp [hj] at hl

/-- Does j wait for i, over at most n edges? -/
def waitsF (md : Region.Mode) (ops : Array Oper) (i : Nat) : Nat → Nat → Bool
  | 0, _ => false
  | n + 1, j => match ops[j]? with
    | none => false
    | some o => o.after.any fun e => Region.binds md e && (e.on == i || waitsF md ops i n e.on)
theorem waits_listed {listed : Array Bool} (hc : Clo md ops listed) {i : Nat} : ∀ n j, (∀ o, ops[j]? = some o → ∀ e ∈ o.after, Region.binds md e = true → listed.getD e.on false = true) → waitsF md ops i n j = true → listed.getD i false = true := by
  intro n
  induction n with
  | zero => intro j _ h; cases h
  | succ n ih =>
    intro j hd h
    unfold waitsF at h
    cases ho : ops[j]? with
    | none => rw [ho] at h; cases h
    | some o =>
      rw [ho] at h
      obtain ⟨e, he, hb⟩ := Array.any_eq_true'.1 h
      rw [Bool.and_eq_true, Bool.or_eq_true, beq_iff_eq] at hb
      have hl := hd o ho e he hb.1
      rcases hb.2 with h1 | h1
      · rw [← h1]; exact hl
      · exact ih e.on (fun o' ho' e' he' hb' => hc e.on o' ho' hl e' he' hb') h1

theorem unlisted_ne {listed : Array Bool} {i : Nat} (h0 : listed.getD i true = false) (h1 : listed.getD i false = true) : False := by
  rcases Nat.lt_or_ge i listed.size with h' | h'
  · simp [h'] at h0 h1; rw [h0] at h1; cases h1
  · simp [Array.getElem?_eq_none h'] at h1

theorem wpL_first {i n : Nat} {oi : Oper} {v : Value} (hi : ops[i]? = some oi) (hsel : ∀ (j : Nat) (o : Oper) cs b, ops[j]? = some o → o.op ≠ .select cs b)
    (hQ : ∀ c a w, Q (.panic c) (a.put oi.dst v) w → Q (.panic c) a w) (hwt : waitsF md ops i n lst = true) :
    ∀ (fuel : Nat) (listed : Array Bool) (a : Act) (w : World), Clo md ops listed →
      (∀ j oj, ops[j]? = some oj → j ≠ i → listed.getD j true = false → (∀ e ∈ oj.after, Region.binds md e = true → e.on ≠ i) → oi.apart ops oj = true) →
      i ∈ Region.ready md ops listed → YieldsIf P ops S oi v a → S w →
      wpL P md ops Q S lst fuel (listed.setIfInBounds i true) (a.put oi.dst v) w → wpL P md ops Q S lst (fuel + 1) listed a w := by
  intro fuel
  induction fuel with
  | zero =>
    intro listed a w _ _ hr hy hS H
    refine ⟨fun h => (by rw [h] at hr; cases hr), fun j hj => ?_⟩
    by_cases hji : j = i
    · subst hji; exact hy.wpOp hi hS ⟨fun _ => hS, H⟩
    · have := ready_mono hj hji
      rw [H.1] at this
      cases this
  | succ fuel ih =>
    intro listed a w hc hfree hr hy hS H
    refine ⟨fun h => (by rw [h] at hr; cases hr), fun j hj => ?_⟩
    by_cases hji : j = i
    · subst hji; exact hy.wpOp hi hS ⟨fun _ => hS, H⟩
    · obtain ⟨hjun, oj, hoj, hall⟩ := mem_ready.1 hj
      have hiun := (mem_ready.1 hr).1
      have hjl : j ≠ lst := by
        intro e
        subst e
        exact unlisted_ne hiun (waits_listed hc n j (fun o ho e he hb => by rw [hoj] at ho; cases ho; exact hall e he hb) hwt)
      have hnot : ∀ e ∈ oj.after, Region.binds md e = true → e.on ≠ i := fun e he hb heq => by
        have h1 := hall e he hb
        rw [heq] at h1
        exact unlisted_ne hiun h1
      have h1 := H.2 j (ready_mono hj hji)
      have h2 := wpOp_putIf hoj (hfree j oj hoj hji hjun hnot) (fun cs b => hsel i oi cs b hi) (fun cs b => hsel j oj cs b hoj) hQ hy h1
      have hfree' : ∀ k ok, ops[k]? = some ok → k ≠ i → (listed.setIfInBounds j true).getD k true = false →
          (∀ e ∈ ok.after, Region.binds md e = true → e.on ≠ i) → oi.apart ops ok = true := fun k ok hk hki hun hno => by
        refine hfree k ok hk hki ?_ hno
        by_cases hjk : j = k
        · subst hjk; exact hjun
        · rw [getD_set_ne true hjk] at hun; exact hun
      refine wpOp_mono (fun a' w' h3 => ⟨h3.2.1, ih (listed.setIfInBounds j true) a' w' (hc.add hj) hfree' (ready_mono hr (Ne.symm hji)) h3.1 (h3.2.1 hjl) ?_⟩) h2
      rw [Array.setIfInBounds_comm _ _ hji]
      exact h3.2.2

theorem at_drop {i : Nat} {oi : Oper} {rest : List Oper} (h : ops.toList.drop i = oi :: rest) : ops[i]? = some oi := by
  have h1 : (ops.toList.drop i)[0]? = some oi := by rw [h]; rfl
  rw [List.getElem?_drop, Nat.add_zero] at h1
  rw [← Array.getElem?_toList]
  exact h1

/-! ### The moves -/
theorem WL_take (i : Nat) {oi : Oper} {rest : List Oper} {v : Value} {fuel : Nat} {listed : Array Bool} {a : Act} {w : World} (hi : ops.toList.drop i = oi :: rest)
    (hs : (Region.noSelect ops && waitsF md ops i 20 lst && Region.free md ops listed i && (Region.ready md ops listed).contains i) = true)
    (hQ : ∀ c a w, Q (.panic c) (a.put oi.dst v) w → Q (.panic c) a w) (hS : S w) (hy : YieldsIf P ops S oi v a)
    (h : Clo md ops (listed.setIfInBounds i true) → wpL P md ops Q S lst fuel (listed.setIfInBounds i true) (a.put oi.dst v) w) : Clo md ops listed → wpL P md ops Q S lst (fuel + 1) listed a w := by
  intro hc
  simp only [Bool.and_eq_true] at hs
  have hr : i ∈ Region.ready md ops listed := by simpa using hs.2
  exact wpL_first (at_drop hi) (Region.noSelect_spec hs.1.1.1) hQ hs.1.1.2 fuel listed a w hc (Region.free_spec (at_drop hi) hs.1.2) hr hy hS (h (hc.add hr))

theorem WL_step (i : Nat) {o : Oper} {rest : List Oper} {fuel : Nat} {listed : Array Bool} {a : Act} {w : World} (ho : ops.toList.drop i = o :: rest) (hr : Region.ready md ops listed = [i])
    (h : ∀ K' : Act → World → Prop, Hid (∀ a w, (i ≠ lst → S w) → (Clo md ops (listed.setIfInBounds i true) → wpL P md ops Q S lst fuel (listed.setIfInBounds i true) a w) → K' a w) → if Region.wanted o (yielded ops a.tmps) = true then Oper.wp P o a w K' Q else K' (a.put o.dst undef) w) :
    Clo md ops listed → wpL P md ops Q S lst (fuel + 1) listed a w := by
  intro hc
  have hi : i ∈ Region.ready md ops listed := by rw [hr]; simp
  refine ⟨fun h0 => (by rw [h0] at hr; cases hr), fun j hj => ?_⟩
  rw [hr, List.mem_singleton] at hj
  subst hj
  exact wpOp_step (at_drop ho) (fun K' hK => h K' (fun a w hS hW => hK a w ⟨hS, hW (hc.add hi)⟩))

theorem WL_done {fuel : Nat} {listed : Array Bool} {a : Act} {w : World} (hr : Region.ready md ops listed = []) (h : Q .normal a w) : Clo md ops listed → wpL P md ops Q S lst fuel listed a w := by
  intro _
  cases fuel with
  | zero => exact ⟨hr, h⟩
  | succ fuel => exact ⟨fun _ => h, by rw [hr]; simp⟩

theorem WL_start (lst : Nat) (S : World → Prop) {id : Nat} {a : Act} {w : World} (hm : P.follows .mixedOrders = true)
    (h : Clo .any ops (Array.replicate ops.size false) → wpL P .any ops Q S lst ops.size (Array.replicate ops.size false) a w.drew) : (Code.region id ops true).wp P Q a w :=
  wp_region_any hm (wpAny_of_L _ _ _ _ (h (clo_none _)))
end
end Go.Proofs.Qxb6603214a
