/-! The Lamport recurrence, plainly: a fixpoint of it is one. -/
namespace Go.Proofs.Qxb6603214a.Lamp

/-- Is 'i' the first event of one of the first 'k' lanes? -/
def firstB (ls : List Int) (k : Nat) (i : Nat) : Bool := (List.range k).any fun p => ls.getD p 0 == (i : Int) && decide (ls.getD p 0 < ls.getD (p + 1) 0)

/-- The time that 'i' gets from the times 't': 0 where a predecessor has none. -/
def F (fst : Nat → Bool) (sd : List Int) (t : List Int) (i : Nat) : Int :=
  if fst i = false ∧ t.getD (i - 1) 0 = 0 then 0
  else if 0 ≤ sd.getD i 0 ∧ t.getD (sd.getD i 0).toNat 0 = 0 then 0
  else (if 0 ≤ sd.getD i 0 ∧ (if fst i = true then 0 else t.getD (i - 1) 0) < t.getD (sd.getD i 0).toNat 0 then t.getD (sd.getD i 0).toNat 0 else (if fst i = true then 0 else t.getD (i - 1) 0)) + 1

theorem firstB_succ (ls : List Int) (k i : Nat) : firstB ls (k + 1) i = (firstB ls k i || (ls.getD k 0 == (i : Int) && decide (ls.getD k 0 < ls.getD (k + 1) 0))) := by
  simp [firstB, List.range_succ]
theorem firstRow_skip (ls : List Int) (k n : Nat) (h : ¬ ls.getD k 0 < ls.getD (k + 1) 0) : (List.range n).map (firstB ls (k + 1)) = (List.range n).map (firstB ls k) := by
  apply List.map_congr_left
  intro i _
  rw [firstB_succ, decide_eq_false h]
  simp
theorem firstRow_set (ls : List Int) (k n m : Nat) (h : ls.getD k 0 < ls.getD (k + 1) 0) (hm : ls.getD k 0 = m) : ((List.range n).map (firstB ls k)).set m true = (List.range n).map (firstB ls (k + 1)) := by
  apply List.ext_getElem (by simp)
  intro i h1 h2
  rw [List.getElem_set, List.getElem_map, List.getElem_map, List.getElem_range, firstB_succ, hm]
  by_cases e : m = i
  · subst e
    rw [hm] at h
    rw [if_pos rfl, decide_eq_true h]
    simp
  · rw [if_neg e]
    have : ((m : Int) == (i : Int)) = false := by simp; omega
    rw [this]
    simp

def cnt (t : List Int) : Nat := t.countP (fun x => x != 0)

theorem cnt_le (t : List Int) : cnt t ≤ t.length := List.countP_le_length

theorem cnt_set (t : List Int) (i : Nat) (v : Int) (hi : i < t.length) (h0 : t.getD i 0 = 0) (hv : v ≠ 0) : cnt (t.set i v) = cnt t + 1 := by
  unfold cnt
  induction t generalizing i with
  | nil => simp at hi
  | cons x r ih =>
    cases i with
    | zero =>
      simp at h0
      subst h0
      simp [hv]
    | succ i =>
      simp at hi h0
      simp only [List.set_cons_succ, List.countP_cons]
      rw [ih i hi (by simpa using h0)]
      omega

theorem getD_set (t : List Int) (i j : Nat) (v : Int) (hi : i < t.length) : (t.set i v).getD j 0 = if i = j then v else t.getD j 0 := by
  rw [List.getD_eq_getElem?_getD, List.getElem?_set, List.getD_eq_getElem?_getD]
  by_cases h : i = j
  · subst h; simp [hi]
  · simp [h]

theorem getD_replicate (n : Nat) (j : Nat) : (List.replicate n (0 : Int)).getD j 0 = 0 := by
  rw [List.getD_eq_getElem?_getD, List.getElem?_replicate]; split <;> rfl

/-- The shape of a run, as far as the recurrence goes. -/
structure Shape (n : Nat) (fst : Nat → Bool) (sd : List Int) : Prop where
  zero : 0 < n → fst 0 = true
  lt : ∀ i, i < n → sd.getD i 0 < n

/-- Part of a fixpoint: what has a time has the right one. -/
structure Part (n : Nat) (fst : Nat → Bool) (sd t : List Int) : Prop where
  len : t.length = n
  nonneg : ∀ i, 0 ≤ t.getD i 0
  bound : ∀ i, t.getD i 0 ≤ cnt t
  ok : ∀ i, i < n → t.getD i 0 ≠ 0 → t.getD i 0 = F fst sd t i

structure Fix (n : Nat) (fst : Nat → Bool) (sd t : List Int) : Prop where
  len : t.length = n
  nonneg : ∀ i, 0 ≤ t.getD i 0
  eq : ∀ i, i < n → t.getD i 0 = F fst sd t i

theorem Part.fix {n : Nat} {fst : Nat → Bool} {sd t : List Int} (h : Part n fst sd t) (hz : ∀ i, i < n → t.getD i 0 = 0 → F fst sd t i = 0) : Fix n fst sd t :=
  ⟨h.len, h.nonneg, fun i hi => by
    by_cases e : t.getD i 0 = 0
    · rw [e, hz i hi e]
    · exact h.ok i hi e⟩

theorem part_zero (n : Nat) (fst : Nat → Bool) (sd : List Int) : Part n fst sd (List.replicate n 0) :=
  ⟨by simp, fun i => by rw [getD_replicate]; omega, fun i => by rw [getD_replicate]; omega, fun i _ h => absurd (getD_replicate n i) h⟩

theorem F_ne_zero {fst : Nat → Bool} {sd t : List Int} {i : Nat} (h : F fst sd t i ≠ 0) :
    (fst i = false → t.getD (i - 1) 0 ≠ 0) ∧ (0 ≤ sd.getD i 0 → t.getD (sd.getD i 0).toNat 0 ≠ 0) := by
  unfold F at h
  refine ⟨fun hf e => ?_, fun hs e => ?_⟩
  · rw [if_pos ⟨hf, e⟩] at h; exact h rfl
  · split at h
    · exact h rfl
    · rw [if_pos ⟨hs, e⟩] at h; exact h rfl

/-- What the recurrence gives hangs on the two predecessors alone. -/
theorem F_congr {fst : Nat → Bool} {sd t u : List Int} {i : Nat} (h1 : fst i = false → t.getD (i - 1) 0 = u.getD (i - 1) 0) (h2 : 0 ≤ sd.getD i 0 → t.getD (sd.getD i 0).toNat 0 = u.getD (sd.getD i 0).toNat 0) :
    F fst sd t i = F fst sd u i := by
  unfold F
  by_cases hs : 0 ≤ sd.getD i 0
  · rw [h2 hs]
    by_cases hf : fst i = true
    · simp only [hf, Bool.true_eq_false, false_and, if_false, if_true]
    · have hf' : fst i = false := by simpa using hf
      rw [h1 hf']
  · by_cases hf : fst i = true
    · simp only [hs, hf, Bool.true_eq_false, false_and, if_false, if_true]
    · have hf' : fst i = false := by simpa using hf
      rw [h1 hf']
      simp only [hs, false_and, if_false]

theorem F_le {n : Nat} {fst : Nat → Bool} {sd t : List Int} (h : Part n fst sd t) (i : Nat) : 0 ≤ F fst sd t i ∧ F fst sd t i ≤ cnt t + 1 := by
  have b1 := h.bound (i - 1)
  have b2 := h.bound (sd.getD i 0).toNat
  have p1 := h.nonneg (i - 1)
  have p2 := h.nonneg (sd.getD i 0).toNat
  unfold F
  split
  · omega
  · split
    · omega
    · split <;> split <;> omega

theorem Part.step {n : Nat} {fst : Nat → Bool} {sd t : List Int} (h : Part n fst sd t) {i : Nat} (hi : i < n) (h0 : t.getD i 0 = 0) (hF : F fst sd t i ≠ 0) :
    Part n fst sd (t.set i (F fst sd t i)) ∧ cnt (t.set i (F fst sd t i)) = cnt t + 1 := by
  have hl : i < t.length := by rw [h.len]; exact hi
  have hc := cnt_set t i _ hl h0 hF
  have hb := F_le h i
  refine ⟨⟨by simp [h.len], fun j => ?_, fun j => ?_, fun j hj hne => ?_⟩, hc⟩
  · rw [getD_set _ _ _ _ hl]; split
    · exact hb.1
    · exact h.nonneg j
  · rw [getD_set _ _ _ _ hl, hc]; split
    · have := hb.2; omega
    · have := h.bound j; omega
  · rw [getD_set _ _ _ _ hl] at hne ⊢
    by_cases e : i = j
    · subst e
      rw [if_pos rfl]
      obtain ⟨q1, q2⟩ := F_ne_zero hF
      refine F_congr (fun hf => ?_) (fun hs => ?_)
      · rw [getD_set _ _ _ _ hl, if_neg]
        intro e; rw [← e] at q1; exact q1 hf h0
      · rw [getD_set _ _ _ _ hl, if_neg]
        intro e; rw [← e] at q2; exact q2 hs h0
    · rw [if_neg e] at hne ⊢
      have ho := h.ok j hj hne
      rw [ho]
      obtain ⟨q1, q2⟩ := F_ne_zero (fst := fst) (sd := sd) (t := t) (i := j) (by rw [← ho]; exact hne)
      refine F_congr (fun hf => ?_) (fun hs => ?_)
      · rw [getD_set _ _ _ _ hl, if_neg]
        intro e; rw [← e] at q1; exact q1 hf h0
      · rw [getD_set _ _ _ _ hl, if_neg]
        intro e; rw [← e] at q2; exact q2 hs h0

/-- A time is above its predecessors' times. -/
theorem F_gt {fst : Nat → Bool} {sd t : List Int} {i : Nat} (hF : F fst sd t i ≠ 0) :
    (fst i = false → t.getD (i - 1) 0 < F fst sd t i) ∧ (0 ≤ sd.getD i 0 → t.getD (sd.getD i 0).toNat 0 < F fst sd t i) := by
  unfold F at hF ⊢
  split at hF
  · exact absurd rfl hF
  · split at hF
    · exact absurd rfl hF
    · rename_i a b
      rw [if_neg a, if_neg b]
      refine ⟨fun hf => ?_, fun hs => ?_⟩
      · simp only [hf]
        split <;> simp_all <;> omega
      · split <;> simp_all <;> omega

theorem fix_le {n : Nat} {fst : Nat → Bool} {sd t u : List Int} (S : Shape n fst sd) (ht : Fix n fst sd t) (hu : Fix n fst sd u) :
    ∀ (m : Nat) (i : Nat), i < n → t.getD i 0 = m → t.getD i 0 ≠ 0 → u.getD i 0 = t.getD i 0 := by
  intro m
  induction m using Nat.strongRecOn with
  | _ m ih =>
    intro i hi hm hne
    have he := ht.eq i hi
    have hFne : F fst sd t i ≠ 0 := by rw [← he]; exact hne
    obtain ⟨q1, q2⟩ := F_ne_zero hFne
    obtain ⟨g1, g2⟩ := F_gt hFne
    rw [hu.eq i hi, he]
    refine (F_congr (fun hf => ?_) (fun hs => ?_)).symm
    · have hlt := g1 hf
      have hnn := ht.nonneg (i - 1)
      exact (ih (t.getD (i - 1) 0).toNat (by omega) (i - 1) (by omega) (by omega) (q1 hf)).symm
    · have hlt := g2 hs
      have hnn := ht.nonneg (sd.getD i 0).toNat
      have hsl := S.lt i hi
      exact (ih (t.getD (sd.getD i 0).toNat 0).toNat (by omega) (sd.getD i 0).toNat (by omega) (by omega) (q2 hs)).symm

/-- There is one fixpoint. -/
theorem fix_unique {n : Nat} {fst : Nat → Bool} {sd t u : List Int} (S : Shape n fst sd) (ht : Fix n fst sd t) (hu : Fix n fst sd u) : t = u := by
  apply List.ext_getElem (by rw [ht.len, hu.len])
  intro i h1 h2
  have hi : i < n := by rw [← ht.len]; exact h1
  have e : t.getD i 0 = u.getD i 0 := by
    by_cases h : t.getD i 0 = 0
    · by_cases h' : u.getD i 0 = 0
      · rw [h, h']
      · have := hu.nonneg i
        exact fix_le S hu ht (u.getD i 0).toNat i hi (by omega) h'
    · have := ht.nonneg i
      exact (fix_le S ht hu (t.getD i 0).toNat i hi (by omega) h).symm
  simpa [h1, h2] using e
end Go.Proofs.Qxb6603214a.Lamp
