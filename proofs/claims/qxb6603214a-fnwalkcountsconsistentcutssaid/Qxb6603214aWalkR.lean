import Derived.Test.Qxb6603214aWalkQ
/-! Bounds of the walk's numbers. -/
namespace Go.Proofs.Qxb6603214a.WalkP
set_option linter.unusedVariables false

theorem getD_set_or (t : List Int) (i j : Nat) (v : Int) : (t.set i v).getD j 0 = v ∨ (t.set i v).getD j 0 = t.getD j 0 := by
  by_cases hi : i < t.length
  · rw [getD_set t i j v hi]
    split
    · exact .inl rfl
    · exact .inr rfl
  · rw [List.set_eq_of_length_le (by omega)]
    exact .inr rfl

/-- x lies within ±b. -/
def Wi (b x : Int) : Prop := -b ≤ x ∧ x ≤ b

structure Inv2 (c : Ctx) (s : WS) : Prop where
  cs : s.count ≤ s.steps + 1
  pl : s.path.length ≤ s.count
  rb : ∀ q, Wi (2 * s.count - s.path.length) (s.recvs.getD q 0)
  eb : ∀ e ∈ s.path, Wi (2 * s.count - s.path.length) e.receivers
  hb : ∀ j, j < c.g → 0 ≤ s.held.getD j 0 ∧ s.held.getD j 0 ≤ c.evs j

theorem inv2_st {c : Ctx} (hc : c.Ok) (hev : ∀ j, j < c.g → 0 ≤ c.evs j) (k : Nat) : Inv2 c (st c k) := by
  induction k with
  | zero =>
    refine ⟨?_, ?_, fun q => ?_, fun e he => ?_, fun j hj => ?_⟩
    · show (1 : Nat) ≤ 0 + 1; omega
    · show (1 : Nat) ≤ 1; omega
    · show Wi _ ((List.replicate c.g 0).getD q 0)
      rw [Lamp.getD_replicate]
      simp only [st, init, Wi, List.length_singleton]
      omega
    · simp only [st, init, List.mem_singleton] at he
      subst he
      simp only [st, init, Wi, root, List.length_singleton]
      omega
    · show 0 ≤ (List.replicate c.g 0).getD j 0 ∧ (List.replicate c.g 0).getD j 0 ≤ _
      rw [Lamp.getD_replicate]
      exact ⟨Int.le_refl _, hev j hj⟩
  | succ k ih =>
    have hi := inv_st hc k
    have hi' := inv_st hc (k + 1)
    have hh : ∀ j, j < c.g → 0 ≤ (st c (k + 1)).held.getD j 0 := fun j hj => by rw [hi'.held j hj]; omega
    show Inv2 c (nxt c (st c k))
    have hh' : ∀ j, j < c.g → 0 ≤ (nxt c (st c k)).held.getD j 0 := hh
    clear hh hi'
    generalize st c k = s at *
    obtain ⟨path, held, recvs, count, steps⟩ := s
    obtain ⟨h1, h2, h3, h4, h5⟩ := ih
    simp only at h1 h2 h3 h4 h5
    cases path with
    | nil => exact ⟨h1, h2, h3, h4, h5⟩
    | cons e rest =>
      have he := hi.okp e (by simp)
      have hlen := hi.hlen
      simp only at hlen
      simp only [List.length_cons] at h2 h3 h4
      have hee := h4 e (by simp)
      unfold nxt at hh' ⊢
      simp only at hh' ⊢
      by_cases hn : e.next = c.g
      · rw [if_pos hn] at hh' ⊢
        simp only at hh'
        refine ⟨h1, (by show rest.length ≤ count; omega), fun q => ?_, fun x hx => ?_, fun j hj => ⟨hh' j hj, ?_⟩⟩
        · have hq := h3 q
          show Wi (2 * (count : Int) - (rest.length : Nat)) ((popRecvs recvs e).getD q 0)
          unfold Wi at *
          unfold popRecvs
          split
          · split
            · rcases getD_set_or (recvs.set e.proc.toNat e.receivers) e.receives.toNat q ((recvs.set e.proc.toNat e.receivers).getD e.receives.toNat 0 - 1) with e1 | e1
              · rw [e1]
                rcases getD_set_or recvs e.proc.toNat e.receives.toNat e.receivers with e2 | e2
                · rw [e2]; omega
                · rw [e2]; have := h3 e.receives.toNat; unfold Wi at this; omega
              · rw [e1]
                rcases getD_set_or recvs e.proc.toNat q e.receivers with e2 | e2
                · rw [e2]; omega
                · rw [e2]; omega
            · rcases getD_set_or recvs e.proc.toNat q e.receivers with e2 | e2
              · rw [e2]; omega
              · rw [e2]; omega
          · omega
        · have := h4 x (by simp only at hx; simp [hx])
          show Wi (2 * (count : Int) - (rest.length : Nat)) x.receivers
          unfold Wi at *
          omega
        · have := h5 j hj
          show (popHeld held e).getD j 0 ≤ c.evs j
          unfold popHeld
          split
          · by_cases ej : e.proc.toNat < held.length
            · rw [getD_set _ _ _ _ ej]
              split
              · rename_i e3; subst e3; omega
              · exact this.2
            · rw [List.set_eq_of_length_le (by omega)]; exact this.2
          · exact this.2
      · rw [if_neg hn] at hh' ⊢
        split
        · rename_i ha
          rw [if_pos ha] at hh'
          simp only at hh'
          refine ⟨(by show count + 1 ≤ steps + 1 + _ + 1; omega), (by show rest.length + 1 + 1 ≤ count + 1; omega), fun q => ?_, fun x hx => ?_, fun j hj => ⟨hh' j hj, ?_⟩⟩
          · have hq := h3 q
            show Wi (2 * ((count + 1 : Nat) : Int) - ((rest.length + 1 + 1 : Nat) : Int)) ((pushRecvs recvs e.next.toNat (c.receives held e.next.toNat)).getD q 0)
            unfold Wi at *
            unfold pushRecvs
            split
            · rcases getD_set_or (recvs.set e.next.toNat 0) (c.receives held e.next.toNat).toNat q ((recvs.set e.next.toNat 0).getD (c.receives held e.next.toNat).toNat 0 + 1) with e1 | e1
              · rw [e1]
                rcases getD_set_or recvs e.next.toNat (c.receives held e.next.toNat).toNat 0 with e2 | e2
                · rw [e2]; omega
                · rw [e2]; have := h3 (c.receives held e.next.toNat).toNat; unfold Wi at this; omega
              · rw [e1]
                rcases getD_set_or recvs e.next.toNat q 0 with e2 | e2
                · rw [e2]; omega
                · rw [e2]; omega
            · rcases getD_set_or recvs e.next.toNat q 0 with e2 | e2
              · rw [e2]; omega
              · rw [e2]; omega
          · simp only [List.mem_cons] at hx
            show Wi (2 * ((count + 1 : Nat) : Int) - ((rest.length + 1 + 1 : Nat) : Int)) x.receivers
            rcases hx with rfl | rfl | hx
            · have := h3 e.next.toNat
              unfold Wi at *
              simp only [Ctx.child]
              omega
            · unfold Wi at *
              simp only [PE.bump]
              omega
            · have := h4 x (by simp [hx])
              unfold Wi at *
              omega
          · have h6 := h5 j hj
            show (pushHeld held e.next.toNat).getD j 0 ≤ c.evs j
            unfold pushHeld
            have n0 := he.n0
            have n1 := he.n1
            rw [getD_set _ _ _ _ (by omega)]
            split
            · rename_i e3
              subst e3
              have h7 : held.getD e.next.toNat 0 ≠ c.evs e.next.toNat := by
                intro e4
                unfold Ctx.adds at ha
                rw [e4] at ha
                simp at ha
              omega
            · exact h6.2
        · refine ⟨(by show count ≤ steps + 1 + 1; omega), h2, h3, fun x hx => ?_, h5⟩
          simp only [List.mem_cons] at hx
          rcases hx with rfl | hx
          · exact hee
          · exact h4 x (by simp [hx])
end Go.Proofs.Qxb6603214a.WalkP
