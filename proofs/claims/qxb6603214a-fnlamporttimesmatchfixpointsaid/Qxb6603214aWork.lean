import Derived.Test.Qxb6603214aModel
/-! The worklist of lamportTimes, plainly. -/
namespace Go.Proofs.Qxb6603214a

/-- In a lane, the first event is the one at which the lane begins. -/
theorem Lanes.first_iff {np n : Nat} {ls : List Int} (h : Lanes np n ls) {p i : Nat} (hp : p < np) (h1 : ls.getD p 0 ≤ i) (h2 : (i : Int) < ls.getD (p + 1) 0) : Lamp.firstB ls np i = decide (ls.getD p 0 = i) := by
  by_cases e : ls.getD p 0 = i
  · rw [decide_eq_true e]
    unfold Lamp.firstB
    rw [List.any_eq_true]
    exact ⟨p, by simpa using hp, by simp only [e, beq_self_eq_true, Bool.true_and, decide_eq_true_eq]; exact h2⟩
  · rw [decide_eq_false e]
    cases hf : Lamp.firstB ls np i with
    | false => rfl
    | true =>
      unfold Lamp.firstB at hf
      rw [List.any_eq_true] at hf
      obtain ⟨q, hq, hq2⟩ := hf
      simp only [List.mem_range] at hq
      rw [Bool.and_eq_true, beq_iff_eq, decide_eq_true_eq] at hq2
      obtain ⟨e1, e2⟩ := hq2
      by_cases hqp : q < p
      · have := h.mono (q + 1) p (by omega) (by omega)
        omega
      · by_cases hqp2 : q = p
        · subst hqp2; omega
        · have := h.mono (p + 1) q (by omega) (by omega)
          omega

/-- Two lanes share no event. -/
theorem Lanes.apart {np n : Nat} {ls : List Int} (h : Lanes np n ls) {p q : Nat} {i : Int} (hp : p < np) (hq : q < np) (h1 : ls.getD p 0 ≤ i) (h2 : i < ls.getD (p + 1) 0) (h3 : ls.getD q 0 ≤ i) (h4 : i < ls.getD (q + 1) 0) : p = q := by
  by_cases a : p < q
  · have := h.mono (p + 1) q (by omega) (by omega)
    omega
  · by_cases b : q < p
    · have := h.mono (q + 1) p (by omega) (by omega)
      omega
    · omega

/-- Every event lies in a lane. -/
theorem Lanes.cover {np n : Nat} {ls : List Int} (h : Lanes np n ls) {i : Nat} (hi : i < n) : ∃ p, p < np ∧ ls.getD p 0 ≤ i ∧ (i : Int) < ls.getD (p + 1) 0 := by
  have key : ∀ k, k ≤ np → (i : Int) < ls.getD k 0 → ∃ p, p < k ∧ ls.getD p 0 ≤ i ∧ (i : Int) < ls.getD (p + 1) 0 := by
    intro k
    induction k with
    | zero => intro _ h0; have := h.first; omega
    | succ k ih =>
      intro hk h0
      by_cases e : (i : Int) < ls.getD k 0
      · obtain ⟨p, hp, r⟩ := ih (by omega) e
        exact ⟨p, by omega, r⟩
      · exact ⟨k, by omega, by omega, h0⟩
  exact key np (Nat.le_refl _) (by have := h.last; omega)

/-- What holds of the worklist: 'act': the processes that are ready, and the one at work. -/
structure Work (np n : Nat) (ls sd t nx : List Int) (W : Int → List Int) (act : List Int) : Prop where
  part : Lamp.Part n (Lamp.firstB ls np) sd t
  nxlen : nx.length = np
  nxlo : ∀ p, p < np → ls.getD p 0 ≤ nx.getD p 0
  nxhi : ∀ p, p < np → nx.getD p 0 ≤ ls.getD (p + 1) 0
  done : ∀ p, p < np → ∀ i : Nat, ls.getD p 0 ≤ i → (i : Int) < nx.getD p 0 → t.getD i 0 ≠ 0
  todo : ∀ p, p < np → ∀ i : Nat, nx.getD p 0 ≤ i → (i : Int) < ls.getD (p + 1) 0 → t.getD i 0 = 0
  nodup : act.Nodup
  rng : ∀ x ∈ act, 0 ≤ x ∧ x < np
  wrng : ∀ s x, x ∈ W s → 0 ≤ x ∧ x < np ∧ nx.getD x.toNat 0 < ls.getD (x.toNat + 1) 0 ∧ sd.getD (nx.getD x.toNat 0).toNat 0 = s ∧ 0 ≤ s ∧ x ∉ act
  wnodup : ∀ s, (W s).Nodup
  each : ∀ p, p < np → (p : Int) ∈ act ∨ nx.getD p 0 = ls.getD (p + 1) 0 ∨ (0 ≤ sd.getD (nx.getD p 0).toNat 0 ∧ t.getD (sd.getD (nx.getD p 0).toNat 0).toNat 0 = 0 ∧ (p : Int) ∈ W (sd.getD (nx.getD p 0).toNat 0))

theorem nodup_range_le (l : List Int) (np : Nat) (h : l.Nodup) (hr : ∀ x ∈ l, 0 ≤ x ∧ x < np) : l.length ≤ np := by
  have h2 : (l.map Int.toNat).Nodup := by
    rw [List.nodup_iff_pairwise_ne] at h ⊢
    rw [List.pairwise_map]
    refine h.imp_of_mem ?_
    intro a b ha hb hab e
    have h1 := hr a ha
    have h2 := hr b hb
    omega
  have h3 : (l.map Int.toNat) ⊆ List.range np := by
    intro x hx
    rw [List.mem_map] at hx
    obtain ⟨y, hy, rfl⟩ := hx
    have := hr y hy
    rw [List.mem_range]
    omega
  have := h2.length_le_of_subset h3
  simpa using this

section
variable {np n : Nat} {ls sd t nx : List Int} {W : Int → List Int} {act rd : List Int} {p : Nat}

/-- At the start every process is ready. -/
theorem Work.start (hL : Lanes np n ls) (hnx : ∀ p, p < np → nx.getD p 0 = ls.getD p 0) (hlen : nx.length = np) : Work np n ls sd (List.replicate n 0) nx (fun _ => []) ((List.range np).map (fun (i : Nat) => (i : Int))) where
  part := Lamp.part_zero _ _ _
  nxlen := hlen
  nxlo p hp := by rw [hnx p hp]; omega
  nxhi p hp := by rw [hnx p hp]; exact hL.up p hp
  done p hp i h1 h2 := by rw [hnx p hp] at h2; omega
  todo p hp i h1 h2 := Lamp.getD_replicate n i
  nodup := by
    rw [List.nodup_iff_pairwise_ne, List.pairwise_map]
    exact (List.nodup_iff_pairwise_ne.1 List.nodup_range).imp (fun h e => h (by omega))
  rng x hx := by
    rw [List.mem_map] at hx
    obtain ⟨i, hi, rfl⟩ := hx
    rw [List.mem_range] at hi
    omega
  wrng s x hx := by simp at hx
  wnodup s := List.nodup_nil
  each p hp := .inl (List.mem_map.2 ⟨p, List.mem_range.2 hp, rfl⟩)

/-- At the end the times are the fixpoint. -/
theorem Work.fix (hL : Lanes np n ls) (h : Work np n ls sd t nx W []) : Lamp.Fix n (Lamp.firstB ls np) sd t := by
  refine h.part.fix (fun i hi h0 => ?_)
  obtain ⟨p, hp, h1, h2⟩ := hL.cover hi
  have hlo := h.nxlo p hp
  have hn0 := hL.lo p (by omega)
  by_cases hd : (i : Int) < nx.getD p 0
  · exact absurd h0 (h.done p hp i h1 hd)
  · rcases h.each p hp with e | e | ⟨e1, e2, e3⟩
    · simp at e
    · omega
    · by_cases hi2 : (i : Int) = nx.getD p 0
      · have : (nx.getD p 0).toNat = i := by omega
        rw [this] at e1 e2
        unfold Lamp.F
        split
        · rfl
        · rw [if_pos ⟨e1, e2⟩]
      · have hz := h.todo p hp (i - 1) (by omega) (by omega)
        have hf : Lamp.firstB ls np i = false := by
          rw [hL.first_iff hp h1 h2, decide_eq_false]
          omega
        unfold Lamp.F
        rw [if_pos ⟨hf, hz⟩]

/-- The process at work waits. -/
theorem Work.wait {s : Int} {W' : Int → List Int} (h : Work np n ls sd t nx W (rd ++ [(p : Int)])) (hp : p < np) (hlt : nx.getD p 0 < ls.getD (p + 1) 0) (hs : sd.getD (nx.getD p 0).toNat 0 = s) (hs0 : 0 ≤ s) (ht : t.getD s.toNat 0 = 0)
    (hW : W' s = W s ++ [(p : Int)]) (hW2 : ∀ r, r ≠ s → W' r = W r) : Work np n ls sd t nx W' rd where
  part := h.part
  nxlen := h.nxlen
  nxlo := h.nxlo
  nxhi := h.nxhi
  done := h.done
  todo := h.todo
  nodup := (List.nodup_append.1 h.nodup).1
  rng x hx := h.rng x (by simp [hx])
  wrng r x hx := by
    have hnd := h.nodup
    rw [List.nodup_append] at hnd
    by_cases e : r = s
    · subst e
      rw [hW, List.mem_append] at hx
      rcases hx with hx | hx
      · obtain ⟨a1, a2, a3, a4, a5, a6⟩ := h.wrng r x hx
        exact ⟨a1, a2, a3, a4, a5, fun hh => a6 (by simp [hh])⟩
      · simp at hx
        subst hx
        refine ⟨by omega, by omega, by simpa using hlt, by simpa using hs, hs0, fun hh => ?_⟩
        exact hnd.2.2 _ hh _ (by simp) rfl
    · rw [hW2 r e] at hx
      obtain ⟨a1, a2, a3, a4, a5, a6⟩ := h.wrng r x hx
      exact ⟨a1, a2, a3, a4, a5, fun hh => a6 (by simp [hh])⟩
  wnodup r := by
    by_cases e : r = s
    · subst e
      rw [hW, List.nodup_append]
      refine ⟨h.wnodup r, by simp, fun a ha b hb e => ?_⟩
      simp at hb
      subst hb
      subst e
      exact (h.wrng r _ ha).2.2.2.2.2 (by simp)
    · rw [hW2 r e]; exact h.wnodup r
  each q hq := by
    rcases h.each q hq with e | e | ⟨e1, e2, e3⟩
    · rw [List.mem_append] at e
      rcases e with e | e
      · exact .inl e
      · simp at e
        obtain rfl : q = p := by omega
        refine .inr (.inr ⟨by rw [hs]; exact hs0, by rw [hs]; exact ht, by rw [hs, hW]; simp⟩)
    · exact .inr (.inl e)
    · refine .inr (.inr ⟨e1, e2, ?_⟩)
      by_cases er : sd.getD (nx.getD q 0).toNat 0 = s
      · rw [er] at e3 ⊢; rw [hW]; simp [e3]
      · rw [hW2 _ er]; exact e3

/-- The process at work is through. -/
theorem Work.through (h : Work np n ls sd t nx W (rd ++ [(p : Int)])) (hp : p < np) (he : nx.getD p 0 = ls.getD (p + 1) 0) : Work np n ls sd t nx W rd where
  part := h.part
  nxlen := h.nxlen
  nxlo := h.nxlo
  nxhi := h.nxhi
  done := h.done
  todo := h.todo
  nodup := (List.nodup_append.1 h.nodup).1
  rng x hx := h.rng x (by simp [hx])
  wrng r x hx := by
    obtain ⟨a1, a2, a3, a4, a5, a6⟩ := h.wrng r x hx
    exact ⟨a1, a2, a3, a4, a5, fun hh => a6 (by simp [hh])⟩
  wnodup := h.wnodup
  each q hq := by
    rcases h.each q hq with e | e | e
    · rw [List.mem_append] at e
      rcases e with e | e
      · exact .inl e
      · simp at e
        obtain rfl : q = p := by omega
        exact .inr (.inl he)
    · exact .inr (.inl e)
    · exact .inr (.inr e)

/-- What the next event of the process at work gets. -/
theorem Work.ready_F (hL : Lanes np n ls) (h : Work np n ls sd t nx W act) (hp : p < np) {i : Nat} (hi : nx.getD p 0 = i) (hlt : (i : Int) < ls.getD (p + 1) 0) (hs : ¬ (0 ≤ sd.getD i 0 ∧ t.getD (sd.getD i 0).toNat 0 = 0)) :
    Lamp.F (Lamp.firstB ls np) sd t i ≠ 0 ∧ t.getD i 0 = 0 ∧ i < n := by
  have hlo := h.nxlo p hp
  have hn0 := hL.lo p (by omega)
  have hhi := hL.hi (p + 1) (by omega)
  refine ⟨?_, h.todo p hp i (by omega) hlt, by omega⟩
  have hff := hL.first_iff hp (i := i) (by omega) hlt
  unfold Lamp.F
  rw [if_neg, if_neg hs]
  · have p1 := h.part.nonneg (i - 1)
    have p2 := h.part.nonneg (sd.getD i 0).toNat
    split <;> split <;> omega
  · intro ⟨a, b⟩
    rw [hff] at a
    simp only [decide_eq_false_iff_not] at a
    exact h.done p hp (i - 1) (by omega) (by omega) b

/-- The next event of the process at work is placed; who waited for it is ready. -/
theorem Work.place {W' : Int → List Int} (hL : Lanes np n ls) (h : Work np n ls sd t nx W (rd ++ [(p : Int)])) (hp : p < np) {i : Nat} (hi : nx.getD p 0 = i) (hlt : (i : Int) < ls.getD (p + 1) 0) (hs : ¬ (0 ≤ sd.getD i 0 ∧ t.getD (sd.getD i 0).toNat 0 = 0))
    (hW : W' i = []) (hW2 : ∀ r, r ≠ (i : Int) → W' r = W r) :
    Work np n ls sd (t.set i (Lamp.F (Lamp.firstB ls np) sd t i)) (nx.set p (i + 1)) W' (rd ++ W i ++ [(p : Int)]) := by
  obtain ⟨hF, ht0, hin⟩ := h.ready_F hL hp hi hlt hs
  have hstep := h.part.step hin ht0 hF
  have htl : i < t.length := by rw [h.part.len]; exact hin
  have hnl : p < nx.length := by rw [h.nxlen]; exact hp
  have hlo := h.nxlo p hp
  have hnd := List.nodup_append.1 h.nodup
  have gnx : ∀ q, (nx.set p ((i : Int) + 1)).getD q 0 = if p = q then (i : Int) + 1 else nx.getD q 0 := fun q => Lamp.getD_set nx p q _ hnl
  have gt : ∀ q, (t.set i (Lamp.F (Lamp.firstB ls np) sd t i)).getD q 0 = if i = q then Lamp.F (Lamp.firstB ls np) sd t i else t.getD q 0 := fun q => Lamp.getD_set t i q _ htl
  exact {
    part := hstep.1
    nxlen := by rw [List.length_set]; exact h.nxlen
    nxlo := fun q hq => by
      rw [gnx]; split
      · rename_i e; subst e; omega
      · exact h.nxlo q hq
    nxhi := fun q hq => by
      rw [gnx]; split
      · rename_i e; subst e; omega
      · exact h.nxhi q hq
    done := fun q hq j h1 h2 => by
      rw [gt]; split
      · exact hF
      · rw [gnx] at h2
        split at h2
        · rename_i e1 e2; subst e2; exact h.done p hp j h1 (by omega)
        · exact h.done q hq j h1 h2
    todo := fun q hq j h1 h2 => by
      rw [gnx] at h1
      rw [gt]
      split at h1
      · rename_i e; subst e
        rw [if_neg (by omega)]
        exact h.todo p hp j (by omega) h2
      · rename_i e
        rw [if_neg]
        · exact h.todo q hq j h1 h2
        · intro e2; subst e2
          have := h.nxlo q hq
          exact e (hL.apart hp hq (i := (i : Int)) (by omega) hlt (by omega) h2)
    nodup := by
      rw [List.nodup_append, List.nodup_append]
      refine ⟨⟨hnd.1, h.wnodup i, fun a ha b hb e => ?_⟩, by simp, fun a ha b hb e => ?_⟩
      · subst e
        exact (h.wrng i a hb).2.2.2.2.2 (by simp [ha])
      · simp at hb
        subst hb
        subst e
        rw [List.mem_append] at ha
        rcases ha with ha | ha
        · exact hnd.2.2 _ ha _ (by simp) rfl
        · exact (h.wrng i _ ha).2.2.2.2.2 (by simp)
    rng := fun x hx => by
      simp only [List.mem_append, List.mem_singleton] at hx
      rcases hx with (hx | hx) | hx
      · exact h.rng x (by simp [hx])
      · obtain ⟨a1, a2, _⟩ := h.wrng i x hx
        exact ⟨a1, a2⟩
      · subst hx; omega
    wrng := fun s x hx => by
      by_cases e : s = (i : Int)
      · subst e; rw [hW] at hx; simp at hx
      · rw [hW2 s e] at hx
        obtain ⟨a1, a2, a3, a4, a5, a6⟩ := h.wrng s x hx
        have hxp : p ≠ x.toNat := by
          intro e2
          apply a6
          rw [List.mem_append]
          right
          simp
          omega
        refine ⟨a1, a2, by rw [gnx, if_neg hxp]; exact a3, by rw [gnx, if_neg hxp]; exact a4, a5, fun hh => ?_⟩
        simp only [List.mem_append, List.mem_singleton] at hh
        rcases hh with (hh | hh) | hh
        · exact a6 (by simp [hh])
        · obtain ⟨_, _, _, b4, _, _⟩ := h.wrng i x hh
          rw [a4] at b4
          exact e b4
        · exact a6 (by simp [hh])
    wnodup := fun s => by
      by_cases e : s = (i : Int)
      · subst e; rw [hW]; exact List.nodup_nil
      · rw [hW2 s e]; exact h.wnodup s
    each := fun q hq => by
      by_cases eq : p = q
      · subst eq; left; simp
      · rw [gnx, if_neg eq]
        rcases h.each q hq with e | e | ⟨e1, e2, e3⟩
        · left
          simp only [List.mem_append, List.mem_singleton] at e ⊢
          rcases e with e | e
          · exact .inl (.inl e)
          · exact .inr e
        · exact .inr (.inl e)
        · by_cases er : sd.getD (nx.getD q 0).toNat 0 = (i : Int)
          · left
            rw [er] at e3
            simp [e3]
          · refine .inr (.inr ⟨e1, ?_, by rw [hW2 _ er]; exact e3⟩)
            rw [gt, if_neg]
            · exact e2
            · omega }
end
end Go.Proofs.Qxb6603214a
