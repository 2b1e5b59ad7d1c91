import Derived.Test.Qxb6603214aRS
/-! The tree of the cuts holds each consistent cut just once; the enumeration of all vectors. -/
namespace Go.Proofs.Qxb6603214a.WalkP
set_option linter.unusedVariables false

theorem D_cut {c : Ctx} {ch : List Int → Nat → Bool} (ht : Tells c ch) : ∀ (f : Nat) (h x : List Int), Cut c h → x ∈ D c ch f h → Cut c x := by
  intro f
  induction f with
  | zero => intro h x hC hx; unfold D at hx; rw [List.mem_singleton] at hx; subst hx; exact hC
  | succ f ih =>
    intro h x hC hx
    unfold D at hx
    rw [List.mem_cons] at hx
    rcases hx with rfl | hx
    · exact hC
    · rw [dks_mem] at hx
      obtain ⟨i, h1, h2, h3⟩ := hx
      by_cases hc : Child c h i
      · rw [(ht _ _).2 hc] at h3; exact ih _ _ hc.1 h3
      · rw [tells_no ht hc] at h3; exact absurd h3 (by simp)

/-- The latest place whose last event can be taken away. -/
def Last (c : Ctx) (x : List Int) (j : Nat) : Prop := j < c.g ∧ Rem c x j ∧ ∀ q, j < q → q < c.g → ¬ Rem c x q
theorem Last.unique {c : Ctx} {x : List Int} {j j' : Nat} (h : Last c x j) (h' : Last c x j') : j = j' := by
  rcases Nat.lt_trichotomy j j' with e | e | e
  · exact absurd h'.2.1 (h.2.2 j' e h'.1)
  · exact e
  · exact absurd h.2.1 (h'.2.2 j e h.1)
def Par (c : Ctx) (x y : List Int) : Prop := ∃ j, Last c x j ∧ y = x.set j (x.getD j 0 - 1)
theorem Par.unique {c : Ctx} {x y y' : List Int} (h : Par c x y) (h' : Par c x y') : y = y' := by
  obtain ⟨j, h1, rfl⟩ := h
  obtain ⟨j', h2, rfl⟩ := h'
  rw [h1.unique h2]
theorem child_last {c : Ctx} (hs : Sound c) {h : List Int} (hC : Cut c h) {j : Nat} (hj : j < c.g) (hch : Child c h j) : Last c (pushHeld h j) j := ⟨hj, rem_self hs hC hj hch.1, hch.2⟩
theorem push_back {c : Ctx} {h : List Int} {j : Nat} (hl : h.length = c.g) (hj : j < c.g) : (pushHeld h j).set j ((pushHeld h j).getD j 0 - 1) = h := by
  refine ext_getD (by simp [pushHeld]) fun q hq => ?_
  rw [getD_set _ _ _ _ (by simp [pushHeld]; omega), push_at _ _ _ (by omega), push_at _ _ _ (by omega), if_pos rfl]
  split
  · rename_i e; subst e; omega
  · rfl
theorem par_child {c : Ctx} (hs : Sound c) {h : List Int} (hC : Cut c h) {j : Nat} (hj : j < c.g) (hch : Child c h j) : Par c (pushHeld h j) h :=
  ⟨j, child_last hs hC hj hch, (push_back hC.len hj).symm⟩
def Anc (c : Ctx) : Nat → List Int → List Int → Prop
  | 0, x, y => x = y
  | n + 1, x, y => ∃ z, Anc c n x z ∧ Par c z y
theorem Anc.unique {c : Ctx} : ∀ (n : Nat) {x y y' : List Int}, Anc c n x y → Anc c n x y' → y = y'
  | 0, x, y, y', h, h' => h.symm.trans h'
  | n + 1, x, y, y', ⟨z, h1, h2⟩, ⟨z', h1', h2'⟩ => by
    obtain rfl := Anc.unique n h1 h1'
    exact h2.unique h2'
theorem D_anc {c : Ctx} {ch : List Int → Nat → Bool} (ht : Tells c ch) (hs : Sound c) : ∀ (f : Nat) (h x : List Int), Cut c h → x ∈ D c ch f h → ∃ n, Anc c n x h ∧ n + rm c x = rm c h := by
  intro f
  induction f with
  | zero => intro h x hC hx; unfold D at hx; rw [List.mem_singleton] at hx; subst hx; exact ⟨0, rfl, by omega⟩
  | succ f ih =>
    intro h x hC hx
    unfold D at hx
    rw [List.mem_cons] at hx
    rcases hx with rfl | hx
    · exact ⟨0, rfl, by omega⟩
    · rw [dks_mem] at hx
      obtain ⟨i, h1, h2, h3⟩ := hx
      by_cases hc : Child c h i
      · rw [(ht _ _).2 hc] at h3
        obtain ⟨n, e1, e2⟩ := ih _ _ hc.1 h3
        refine ⟨n + 1, ⟨_, e1, par_child hs hC (by omega) hc⟩, ?_⟩
        · rw [rm_push hC (by omega) hc.1]; omega
      · rw [tells_no ht hc] at h3; exact absurd h3 (by simp)
theorem push_inj {c : Ctx} {h : List Int} (hl : h.length = c.g) {i i' : Nat} (hi : i < c.g) (hi' : i' < c.g) (e : pushHeld h i = pushHeld h i') : i = i' := by
  by_cases hne : i = i'
  · exact hne
  · have h1 := push_at h i i (by omega)
    have h2 := push_at h i' i (by omega)
    rw [e, h2, if_neg (fun e => hne e.symm), if_pos rfl] at h1
    omega
theorem D_nodup {c : Ctx} {ch : List Int → Nat → Bool} (ht : Tells c ch) (hs : Sound c) : ∀ (f : Nat) (h : List Int), Cut c h → (D c ch f h).Nodup := by
  intro f
  induction f with
  | zero => intro h hC; unfold D; simp
  | succ f ih =>
    intro h hC
    unfold D
    rw [List.nodup_cons]
    constructor
    · intro hx
      rw [dks_mem] at hx
      obtain ⟨i, h1, h2, h3⟩ := hx
      by_cases hc : Child c h i
      · rw [(ht _ _).2 hc] at h3
        obtain ⟨n, _, e2⟩ := D_anc ht hs f _ _ hc.1 h3
        have := rm_push hC (by omega) hc.1
        omega
      · rw [tells_no ht hc] at h3; exact absurd h3 (by simp)
    · refine dks_nodup _ _ _ ?_ ?_
      · intro i _ hi
        by_cases hc : Child c h i
        · rw [(ht _ _).2 hc]; exact ih _ hc.1
        · rw [tells_no ht hc]; exact List.nodup_nil
      · intro i i' x _ hlt hi' hx hx'
        by_cases hc : Child c h i
        · by_cases hc' : Child c h i'
          · rw [(ht _ _).2 hc] at hx
            rw [(ht _ _).2 hc'] at hx'
            obtain ⟨n, e1, e2⟩ := D_anc ht hs f _ _ hc.1 hx
            obtain ⟨n', e1', e2'⟩ := D_anc ht hs f _ _ hc'.1 hx'
            have r1 := rm_push hC (by omega) hc.1
            have r2 := rm_push hC (by omega) hc'.1
            have en : n = n' := by omega
            subst en
            have := push_inj hC.len (by omega) (by omega) (Anc.unique _ e1 e1')
            omega
          · rw [tells_no ht hc'] at hx'; exact absurd hx' (by simp)
        · rw [tells_no ht hc] at hx; exact absurd hx (by simp)

theorem D_self (c : Ctx) (ch : List Int → Nat → Bool) (f : Nat) (h : List Int) : h ∈ D c ch f h := by cases f <;> simp [D]
theorem D_closed {c : Ctx} {ch : List Int → Nat → Bool} (ht : Tells c ch) : ∀ (f : Nat) (h y : List Int), Cut c h → rm c h = f → y ∈ D c ch f h → ∀ j, j < c.g → Child c y j → pushHeld y j ∈ D c ch f h := by
  intro f
  induction f with
  | zero =>
    intro h y hC hr hy j hj hch
    unfold D at hy; rw [List.mem_singleton] at hy; subst hy
    have := rm_push hC hj hch.1
    omega
  | succ f ih =>
    intro h y hC hr hy j hj hch
    unfold D at hy ⊢
    rw [List.mem_cons] at hy ⊢
    right
    rw [dks_mem]
    rcases hy with rfl | hy
    · refine ⟨j, Nat.zero_le _, by omega, ?_⟩
      rw [(ht _ _).2 hch]; exact D_self _ _ _ _
    · rw [dks_mem] at hy
      obtain ⟨i, h1, h2, h3⟩ := hy
      by_cases hc : Child c h i
      · rw [(ht _ _).2 hc] at h3
        refine ⟨i, h1, h2, ?_⟩
        rw [(ht _ _).2 hc]
        have := rm_push hC (by omega) hc.1
        exact ih _ _ hc.1 (by omega) h3 j hj hch
      · rw [tells_no ht hc] at h3; exact absurd h3 (by simp)

theorem max_arg (φ : Nat → Int) (P : Nat → Prop) (n : Nat) (h : ∃ q, q < n ∧ P q) : ∃ q, q < n ∧ P q ∧ ∀ q', q' < n → P q' → φ q' ≤ φ q := by
  induction n with
  | zero => obtain ⟨q, h1, _⟩ := h; omega
  | succ n ih =>
    by_cases h2 : ∃ q, q < n ∧ P q
    · obtain ⟨q, e1, e2, e3⟩ := ih h2
      by_cases hn : P n ∧ φ q < φ n
      · refine ⟨n, by omega, hn.1, fun q' h1 h3 => ?_⟩
        by_cases e : q' = n
        · subst e; exact Int.le_refl _
        · have := e3 q' (by omega) h3; have := hn.2; omega
      · refine ⟨q, by omega, e2, fun q' h1 h3 => ?_⟩
        by_cases e : q' = n
        · subst e
          by_cases h4 : φ q < φ q'
          · exact absurd ⟨h3, h4⟩ hn
          · omega
        · exact e3 q' (by omega) h3
    · obtain ⟨q, e1, e2⟩ := h
      have e : q = n := by
        by_cases e : q = n
        · exact e
        · exact absurd ⟨q, by omega, e2⟩ h2
      subst e
      refine ⟨q, by omega, e2, fun q' h1 h3 => ?_⟩
      by_cases e : q' = q
      · subst e; exact Int.le_refl _
      · exact absurd ⟨q', by omega, h3⟩ h2

theorem times_le {c : Ctx} {τ : Nat → Nat → Int} (h1 : ∀ j k : Nat, j < c.g → (k : Int) + 1 < c.evs j → τ j k < τ j (k + 1)) {j : Nat} (hj : j < c.g) (k d : Nat) (hd : ((k + d : Nat) : Int) < c.evs j) : τ j k ≤ τ j (k + d) := by
  induction d with
  | zero => exact Int.le_refl _
  | succ d ih =>
    have := ih (by omega)
    have := h1 j (k + d) hj (by omega)
    rw [← Nat.add_assoc]
    omega
theorem has_last {c : Ctx} (hs : Sound c) {x : List Int} (hC : Cut c x) (h : ∃ j, j < c.g ∧ 0 < x.getD j 0) : ∃ j, Last c x j := by
  obtain ⟨τ, t1, t2⟩ := hs.time
  obtain ⟨q, q1, q2, q3⟩ := max_arg (fun q => τ q (x.getD q 0 - 1).toNat) (fun q => 0 < x.getD q 0) c.g h
  have hrem : Rem c x q := by
    refine ⟨q2, ?_⟩
    rintro ⟨j, k, h1, h2, h3, h4, h5⟩
    have hi := hC.hi j h1
    have a1 := t2 j k h1 (by omega) h3
    rw [h4, h5] at a1
    have a2 := times_le t1 h1 k ((x.getD j 0 - 1).toNat - k) (by omega)
    rw [show k + ((x.getD j 0 - 1).toNat - k) = (x.getD j 0 - 1).toNat by omega] at a2
    have a3 := q3 j h1 (by omega)
    omega
  obtain ⟨j, j1, j2, j3⟩ := max_arg (fun q => (q : Int)) (fun q => Rem c x q) c.g ⟨q, q1, hrem⟩
  refine ⟨j, j1, j2, fun q' h1 h2 h3 => ?_⟩
  have := j3 q' h2 h3
  omega
theorem parent_cut {c : Ctx} (hs : Sound c) {x : List Int} (hC : Cut c x) {j : Nat} (hj : j < c.g) (hr : Rem c x j) : Cut c (x.set j (x.getD j 0 - 1)) ∧ pushHeld (x.set j (x.getD j 0 - 1)) j = x := by
  have hl : j < x.length := by rw [hC.len]; exact hj
  have hat : ∀ q, (x.set j (x.getD j 0 - 1)).getD q 0 = if j = q then x.getD j 0 - 1 else x.getD q 0 := fun q => getD_set _ _ _ _ hl
  have hle : ∀ q, (x.set j (x.getD j 0 - 1)).getD q 0 ≤ x.getD q 0 := by
    intro q; rw [hat q]; split
    · rename_i e; subst e; omega
    · omega
  have hpos := hr.1
  refine ⟨⟨by simp [hC.len], ?_, ?_, ?_⟩, ?_⟩
  · intro q hq; rw [hat q]
    split
    · omega
    · exact hC.lo q hq
  · intro q hq; have := hle q; have := hC.hi q hq; omega
  · intro j' k hj' hk hx
    have hk2 : (k : Int) < x.getD j' 0 := by have := hle j'; omega
    have h1 := hC.co j' k hj' hk2 hx
    rw [hat]
    split
    · rename_i e
      have hne : c.S j' k ≠ x.getD j 0 := fun e2 => hr.2 ⟨j', k, hj', hk2, hx, e.symm, e2⟩
      rw [← e] at h1
      omega
    · exact h1
  · refine ext_getD (by simp [pushHeld]) fun q hq => ?_
    rw [push_at _ _ _ (by simpa using hl), hat, hat, if_pos rfl]
    split
    · rename_i e; subst e; omega
    · rfl

theorem DD_all {c : Ctx} {ch : List Int → Nat → Bool} (ht : Tells c ch) (hs : Sound c) : ∀ (n : Nat) (x : List Int), Cut c x → sz c x = n → x ∈ DD c ch (zeros c) := by
  intro n
  induction n with
  | zero =>
    intro x hC hz
    have : x = zeros c := by
      refine ext_getD (by simp [hC.len, zeros]) fun q hq => ?_
      rw [zeros_at]
      have hq' : q < c.g := by rw [← hC.len]; exact hq
      have h0 := hC.lo q hq'
      by_cases e : x.getD q 0 = 0
      · exact e
      · exfalso
        have h1 : sz c x = sz c (x.set q (x.getD q 0 - 1)) + 1 := by
          refine rsum_one _ _ _ q hq' ?_ ?_
          · rw [getD_set _ _ _ _ hq, if_pos rfl]; omega
          · intro i hi hne; rw [getD_set _ _ _ _ hq, if_neg (fun e => hne e.symm)]
        omega
    rw [this]
    exact D_self _ _ _ _
  | succ n ih =>
    intro x hC hz
    obtain ⟨j0, e1, e2⟩ := rsum_pos (fun j => (x.getD j 0).toNat) c.g (by show 0 < sz c x; omega)
    obtain ⟨j, hL⟩ := has_last hs hC ⟨j0, e1, by omega⟩
    obtain ⟨hP, hpu⟩ := parent_cut hs hC hL.1 hL.2.1
    have hsz := sz_push hP hL.1
    rw [hpu] at hsz
    have hin := ih _ hP (by omega)
    have hch : Child c (x.set j (x.getD j 0 - 1)) j := by
      unfold Child
      rw [hpu]
      exact ⟨hC, hL.2.2⟩
    have := D_closed ht (rm c (zeros c)) (zeros c) _ (cut_zeros hs) rfl hin j hL.1 hch
    rw [hpu] at this
    exact this

/-! ### All vectors -/
def dig (m : Nat → Nat) : Nat → Nat → Nat → List Int
  | _, 0, _ => []
  | j, n + 1, it => ((it % (m j + 1) : Nat) : Int) :: dig m (j + 1) n (it / (m j + 1))
theorem dig_len (m : Nat → Nat) (j n it : Nat) : (dig m j n it).length = n := by
  induction n generalizing j it with
  | zero => rfl
  | succ n ih => unfold dig; rw [List.length_cons, ih]
theorem dig_inj (m : Nat → Nat) (j n it it' : Nat) (h : it < pf m j n) (h' : it' < pf m j n) (e : dig m j n it = dig m j n it') : it = it' := by
  induction n generalizing j it it' with
  | zero => unfold pf at h h'; omega
  | succ n ih =>
    unfold dig at e
    rw [List.cons.injEq] at e
    have h1 : it / (m j + 1) < pf m (j + 1) n := Nat.div_lt_of_lt_mul h
    have h2 : it' / (m j + 1) < pf m (j + 1) n := Nat.div_lt_of_lt_mul h'
    have h3 := ih (j + 1) _ _ h1 h2 e.2
    have h4 := e.1
    have a1 := Nat.div_add_mod it (m j + 1)
    have a2 := Nat.div_add_mod it' (m j + 1)
    rw [h3] at a1
    omega
theorem dig_sur (m : Nat → Nat) (j n : Nat) (x : List Int) (hl : x.length = n) (h : ∀ i, i < n → 0 ≤ x.getD i 0 ∧ x.getD i 0 ≤ m (j + i)) : ∃ it, it < pf m j n ∧ dig m j n it = x := by
  induction n generalizing j x with
  | zero => exact ⟨0, by simp [pf], by cases x with | nil => rfl | cons a t => simp at hl⟩
  | succ n ih =>
    cases x with
    | nil => simp at hl
    | cons a t =>
      obtain ⟨it, h1, h2⟩ := ih (j + 1) t (by simpa using hl) (fun i hi => by have := h (i + 1) (by omega); rw [show j + (i + 1) = j + 1 + i by omega] at this; simpa using this)
      have ha := h 0 (by omega)
      have ha : 0 ≤ a ∧ a ≤ m j := by simpa using ha
      refine ⟨a.toNat + (m j + 1) * it, ?_, ?_⟩
      · show _ < (m j + 1) * pf m (j + 1) n
        have : (m j + 1) * (it + 1) ≤ (m j + 1) * pf m (j + 1) n := Nat.mul_le_mul_left _ h1
        rw [Nat.mul_add, Nat.mul_one] at this
        omega
      · unfold dig
        rw [Nat.add_mul_mod_self_left, Nat.mod_eq_of_lt (by omega), Nat.add_mul_div_left _ _ (by omega), Nat.div_eq_of_lt (by omega), Nat.zero_add, h2]
        congr 1
        omega
/-- The next vector. -/
def inc (m : Nat → Nat) : Nat → List Int → List Int
  | _, [] => []
  | j, a :: t => if a < m j then (a + 1) :: t else 0 :: inc m (j + 1) t
theorem inc_dig (m : Nat → Nat) (j n it : Nat) : inc m j (dig m j n it) = dig m j n (it + 1) := by
  induction n generalizing j it with
  | zero => rfl
  | succ n ih =>
    show (if ((it % (m j + 1) : Nat) : Int) < m j then _ else _) = _
    have hlt := Nat.mod_lt it (show 0 < m j + 1 by omega)
    have hdm := Nat.div_add_mod it (m j + 1)
    split
    · rename_i h
      have e1 : (it + 1) % (m j + 1) = it % (m j + 1) + 1 := by
        rw [← hdm]
        rw [Nat.add_assoc, Nat.mul_add_mod, Nat.mul_add_mod, Nat.mod_eq_of_lt (by omega), Nat.mod_eq_of_lt hlt]
      have e2 : (it + 1) / (m j + 1) = it / (m j + 1) := by
        have : it + 1 = (it % (m j + 1) + 1) + (m j + 1) * (it / (m j + 1)) := by omega
        rw [this, Nat.add_mul_div_left _ _ (by omega), Nat.div_eq_of_lt (by omega), Nat.zero_add]
      have e5 : dig m j (n + 1) (it + 1) = (((it + 1) % (m j + 1) : Nat) : Int) :: dig m (j + 1) n ((it + 1) / (m j + 1)) := rfl
      rw [e5, e1, e2]
      rfl
    · rename_i h
      have e3 : it % (m j + 1) = m j := by omega
      have e4 : it + 1 = (m j + 1) * (it / (m j + 1) + 1) := by rw [Nat.mul_add, Nat.mul_one]; omega
      have e1 : (it + 1) % (m j + 1) = 0 := by rw [e4, Nat.mul_mod_right]
      have e2 : (it + 1) / (m j + 1) = it / (m j + 1) + 1 := by rw [e4, Nat.mul_div_cancel_left _ (by omega)]
      have e5 : dig m j (n + 1) (it + 1) = (((it + 1) % (m j + 1) : Nat) : Int) :: dig m (j + 1) n ((it + 1) / (m j + 1)) := rfl
      rw [e5, e1, e2, ih]
      rfl

theorem nodup_le {α : Type} [BEq α] [LawfulBEq α] : ∀ (l l' : List α), l.Nodup → (∀ x, x ∈ l → x ∈ l') → l.length ≤ l'.length := by
  intro l
  induction l with
  | nil => intro l' _ _; simp
  | cons a t ih =>
    intro l' hn hsub
    rw [List.nodup_cons] at hn
    have ha := hsub a (by simp)
    have h1 := ih (l'.erase a) hn.2 (fun x hx => by
      rw [List.mem_erase_of_ne (fun e => hn.1 (by rw [← e]; exact hx))]
      exact hsub x (by simp [hx]))
    rw [List.length_erase_of_mem ha] at h1
    have h2 := List.length_pos_of_mem ha
    simp only [List.length_cons]
    omega

/-- f counts the consistent cuts among the first vectors. -/
def IsCnt (c : Ctx) (f : Nat → Nat) : Prop := f 0 = 0 ∧ ∀ it, (Cut c (dig (fun j => (c.evs j).toNat) 0 c.g it) → f (it + 1) = f it + 1) ∧ (¬ Cut c (dig (fun j => (c.evs j).toNat) 0 c.g it) → f (it + 1) = f it)
theorem IsCnt.list {c : Ctx} {f : Nat → Nat} (hf : IsCnt c f) (it : Nat) : f it = ((List.range it).filter (fun i => @decide (Cut c (dig (fun j => (c.evs j).toNat) 0 c.g i)) (Classical.propDecidable _))).length := by
  classical
  induction it with
  | zero => rw [hf.1]; simp
  | succ it ih =>
    rw [List.range_succ, List.filter_append, List.length_append, ← ih]
    by_cases h : Cut c (dig (fun j => (c.evs j).toNat) 0 c.g it)
    · rw [(hf.2 it).1 h]; simp [h]
    · rw [(hf.2 it).2 h]; simp [h]
theorem IsCnt.le {c : Ctx} {f : Nat → Nat} (hf : IsCnt c f) (it : Nat) : f it ≤ it := by
  rw [hf.list it]
  refine Nat.le_trans (List.length_filter_le _ _) ?_
  simp
theorem cnt_some (c : Ctx) : ∃ f, IsCnt c f := by
  classical
  refine ⟨fun it => ((List.range it).filter (fun i => decide (Cut c (dig (fun j => (c.evs j).toNat) 0 c.g i)))).length, by simp, fun it => ⟨fun h => ?_, fun h => ?_⟩⟩
  · simp only [List.range_succ, List.filter_append]; simp [h]
  · simp only [List.range_succ, List.filter_append]; simp [h]

theorem nodup_map_on {α β : Type} (f : α → β) : ∀ (l : List α), l.Nodup → (∀ x y, x ∈ l → y ∈ l → f x = f y → x = y) → (l.map f).Nodup := by
  intro l
  induction l with
  | nil => intro _ _; exact List.nodup_nil
  | cons a t ih =>
    intro hn hinj
    rw [List.nodup_cons] at hn
    rw [List.map_cons, List.nodup_cons]
    refine ⟨?_, ih hn.2 (fun x y hx hy => hinj x y (by simp [hx]) (by simp [hy]))⟩
    intro h
    rw [List.mem_map] at h
    obtain ⟨b, hb, e⟩ := h
    exact hn.1 (by rw [← hinj b a (by simp [hb]) (by simp) e]; exact hb)

theorem DD_count {c : Ctx} {ch : List Int → Nat → Bool} (ht : Tells c ch) (hs : Sound c) {f : Nat → Nat} (hf : IsCnt c f) : (DD c ch (zeros c)).length = f (pf (fun j => (c.evs j).toNat) 0 c.g) := by
  classical
  have hnd := D_nodup ht hs (rm c (zeros c)) (zeros c) (cut_zeros hs)
  rw [hf.list]
  apply Nat.le_antisymm
  · have h1 := nodup_le (DD c ch (zeros c)) (((List.range (pf (fun j => (c.evs j).toNat) 0 c.g)).filter (fun i => @decide (Cut c (dig (fun j => (c.evs j).toNat) 0 c.g i)) (Classical.propDecidable _))).map (dig (fun j => (c.evs j).toNat) 0 c.g)) hnd (fun x hx => by
      have hC := D_cut ht _ _ _ (cut_zeros hs) hx
      obtain ⟨it, h1, h2⟩ := dig_sur (fun j => (c.evs j).toNat) 0 c.g x hC.len (fun i hi => by
        have := hC.lo i hi
        have := hC.hi i hi
        rw [Nat.zero_add]
        omega)
      rw [List.mem_map]
      refine ⟨it, ?_, h2⟩
      rw [List.mem_filter, List.mem_range]
      exact ⟨h1, by rw [h2]; simpa using hC⟩)
    rw [List.length_map] at h1
    exact h1
  · have h1 := nodup_le (((List.range (pf (fun j => (c.evs j).toNat) 0 c.g)).filter (fun i => @decide (Cut c (dig (fun j => (c.evs j).toNat) 0 c.g i)) (Classical.propDecidable _))).map (dig (fun j => (c.evs j).toNat) 0 c.g)) (DD c ch (zeros c)) (by
        refine nodup_map_on _ _ (List.nodup_range.filter _) ?_
        intro x y hx hy e
        rw [List.mem_filter, List.mem_range] at hx hy
        exact dig_inj _ _ _ _ _ hx.1 hy.1 e) (fun x hx => by
      rw [List.mem_map] at hx
      obtain ⟨it, h1, h2⟩ := hx
      rw [List.mem_filter] at h1
      have hC : Cut c x := by rw [← h2]; simpa using h1.2
      exact DD_all ht hs _ x hC rfl)
    rw [List.length_map] at h1
    exact h1

/-- The walk's count never passes the number of consistent cuts, and meets it at the end. -/
theorem count_le {c : Ctx} (hs : Sound c) (k : Nat) : (st c k).count ≤ pf (fun j => (c.evs j).toNat) 0 c.g := by
  obtain ⟨ch, ht⟩ := tells_some c
  obtain ⟨f, hf⟩ := cnt_some c
  have h1 := (cpot_st ht hs k).2
  rw [DD_count ht hs hf] at h1
  have := hf.le (pf (fun j => (c.evs j).toNat) 0 c.g)
  omega
theorem count_end {c : Ctx} (hs : Sound c) {f : Nat → Nat} (hf : IsCnt c f) {k : Nat} (h : (st c k).path = []) : (st c k).count = f (pf (fun j => (c.evs j).toNat) 0 c.g) := by
  obtain ⟨ch, ht⟩ := tells_some c
  have := (cpot_st ht hs k).2
  rw [DD_count ht hs hf, h] at this
  exact this
end Go.Proofs.Qxb6603214a.WalkP
