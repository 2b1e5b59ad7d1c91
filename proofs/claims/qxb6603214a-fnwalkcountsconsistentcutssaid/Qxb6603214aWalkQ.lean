import Derived.Test.Qxb6603214aWalkP
/-! The walk visits at least the cuts that hold no receive of another process's message. -/
namespace Go.Proofs.Qxb6603214a.WalkP
set_option linter.unusedVariables false

/-- The product of (fr i + 1) over the k places from j on. -/
def pf (fr : Nat → Nat) : Nat → Nat → Nat
  | _, 0 => 1
  | j, k + 1 => (fr j + 1) * pf fr (j + 1) k
/-- The free cuts that are still to come from a cut that holds H, over the k places from j on. -/
def sm (fr H : Nat → Nat) : Nat → Nat → Nat
  | _, 0 => 0
  | j, k + 1 => (fr j - H j) * pf fr (j + 1) k + sm fr H (j + 1) k

theorem pf_pos (fr : Nat → Nat) (j k : Nat) : 1 ≤ pf fr j k := by
  induction k generalizing j with
  | zero => simp [pf]
  | succ k ih => unfold pf; exact Nat.mul_pos (by omega) (ih (j + 1))

theorem sm_zero (fr H : Nat → Nat) (j k : Nat) (h : ∀ i, j ≤ i → i < j + k → H i = 0) : sm fr H j k + 1 = pf fr j k := by
  induction k generalizing j with
  | zero => simp [sm, pf]
  | succ k ih =>
    rw [show sm fr H j (k + 1) = (fr j - H j) * pf fr (j + 1) k + sm fr H (j + 1) k from rfl, show pf fr j (k + 1) = (fr j + 1) * pf fr (j + 1) k from rfl]
    have := ih (j + 1) (fun i h1 h2 => h i (by omega) (by omega))
    rw [h j (by omega) (by omega), Nat.add_mul, Nat.one_mul]
    simp only [Nat.sub_zero]
    omega

/-- Is the cut at the path's top a free one, reached in the order of the places? -/
def FreeTop (g : Nat) (fr H : Nat → Nat) (proc : Int) : Prop := (∀ j, j < g → H j ≤ fr j) ∧ (∀ j, j < g → proc < (j : Int) → H j = 0)

/-- 'x' is no more than what is still to come from the top: of a free cut the sum; of another nothing. -/
def Rest (g : Nat) (fr : Nat → Nat) (e : PE) (rest : List PE) (x : Nat) : Prop :=
  x = 0 ∨ (FreeTop g fr (fun j => onPath j (e :: rest)) e.proc ∧ x ≤ sm fr (fun j => onPath j (e :: rest)) (max e.next.toNat e.proc.toNat) (g - max e.next.toNat e.proc.toNat))

/-- .. over all the path. -/
def Rests (g : Nat) (fr : Nat → Nat) : List PE → Nat → Prop
  | [], x => x = 0
  | e :: rest, x => ∃ y z, x = y + z ∧ Rest g fr e rest y ∧ Rests g fr rest z

/-- The free events of each place: the first fr j events of place j receive no other process's message. -/
structure Free (c : Ctx) (fr : Nat → Nat) : Prop where
  le : ∀ j, j < c.g → (fr j : Int) ≤ c.evs j
  ls0 : ∀ j, j < c.g → 0 ≤ c.ls.getD (c.p j) 0
  free : ∀ j, j < c.g → ∀ k, k < fr j → c.cross (c.p j) (c.ls.getD (c.p j) 0 + k).toNat = false

/-- A free event is added where the order of the places allows. -/
theorem adds_free {c : Ctx} {fr : Nat → Nat} (hf : Free c fr) {held : List Int} {e : PE} {j h : Nat} (hj : j < c.g) (hh : held.getD j 0 = h) (hlt : h < fr j) (hp : e.proc ≤ j) : c.adds held e j = true ∧ c.receives held j = -1 := by
  have hle := hf.le j hj
  have hat : c.at held j = (c.ls.getD (c.p j) 0 + h).toNat := by unfold Ctx.at; rw [hh]
  have hcr : c.cross (c.p j) (c.at held j) = false := by rw [hat]; exact hf.free j hj h hlt
  constructor
  · unfold Ctx.adds Ctx.blocked
    rw [hcr, hh]
    have h1 : ((h : Int) == c.evs j) = false := by simp; omega
    have h2 : decide ((j : Int) < e.proc) = false := decide_eq_false (by omega)
    rw [h1, h2]
    rfl
  · unfold Ctx.receives
    rw [hcr]
    simp

theorem Rest.bump {c : Ctx} {fr : Nat → Nat} (hf : Free c fr) {held : List Int} {e : PE} {rest : List PE} {y : Nat} (he : OkE c.g e) (hn : e.next ≠ c.g) (hheld : ∀ j, j < c.g → held.getD j 0 = onPath j (e :: rest)) (ha : c.adds held e e.next.toNat ≠ true) (h : Rest c.g fr e rest y) :
    Rest c.g fr e.bump rest y := by
  rcases h with h | ⟨h1, h2⟩
  · exact .inl h
  · right
    refine ⟨h1, ?_⟩
    have n0 := he.n0
    have n1 := he.n1
    have e1 : e.bump.next.toNat = e.next.toNat + 1 := by simp only [PE.bump]; omega
    have e2 : e.bump.proc = e.proc := rfl
    rw [e1, e2]
    show y ≤ sm fr (fun j => onPath j (e :: rest)) _ _
    by_cases hpr : e.next.toNat + 1 ≤ e.proc.toNat
    · rw [show max (e.next.toNat + 1) e.proc.toNat = max e.next.toNat e.proc.toNat by omega]
      exact h2
    · rw [show max (e.next.toNat + 1) e.proc.toNat = e.next.toNat + 1 by omega]
      rw [show max e.next.toNat e.proc.toNat = e.next.toNat by omega, show c.g - e.next.toNat = (c.g - (e.next.toNat + 1)) + 1 by omega] at h2
      have h3 : sm fr (fun j => onPath j (e :: rest)) e.next.toNat (c.g - (e.next.toNat + 1) + 1) = (fr e.next.toNat - onPath e.next.toNat (e :: rest)) * pf fr (e.next.toNat + 1) (c.g - (e.next.toNat + 1)) + sm fr (fun j => onPath j (e :: rest)) (e.next.toNat + 1) (c.g - (e.next.toNat + 1)) := rfl
      rw [h3] at h2
      have h4 : fr e.next.toNat - onPath e.next.toNat (e :: rest) = 0 := by
        by_cases hlt : onPath e.next.toNat (e :: rest) < fr e.next.toNat
        · exact absurd (adds_free hf (by omega) (hheld _ (by omega)) hlt (by omega)).1 ha
        · omega
      rw [h4] at h2
      omega

theorem Rest.push {c : Ctx} {fr : Nat → Nat} (hf : Free c fr) {held recvs : List Int} {e : PE} {rest : List PE} {y : Nat} (he : OkE c.g e) (hn : e.next ≠ c.g) (hheld : ∀ j, j < c.g → held.getD j 0 = onPath j (e :: rest)) (h : Rest c.g fr e rest y) :
    ∃ y1 y2, y ≤ 1 + y1 + y2 ∧ Rest c.g fr (c.child held recvs e.next.toNat) (e.bump :: rest) y1 ∧ Rest c.g fr e.bump rest y2 := by
  rcases h with h | ⟨h1, h2⟩
  · exact ⟨0, 0, by omega, .inl rfl, .inl rfl⟩
  · have n0 := he.n0
    have n1 := he.n1
    have e1 : e.bump.next.toNat = e.next.toNat + 1 := by simp only [PE.bump]; omega
    have e2 : e.bump.proc = e.proc := rfl
    by_cases hpr : e.next.toNat + 1 ≤ e.proc.toNat
    · refine ⟨0, y, by omega, .inl rfl, .inr ⟨h1, ?_⟩⟩
      rw [e1, e2, show max (e.next.toNat + 1) e.proc.toNat = max e.next.toNat e.proc.toNat by omega]
      exact h2
    · rw [show max e.next.toNat e.proc.toNat = e.next.toNat by omega, show c.g - e.next.toNat = (c.g - (e.next.toNat + 1)) + 1 by omega] at h2
      have h3 : sm fr (fun j => onPath j (e :: rest)) e.next.toNat (c.g - (e.next.toNat + 1) + 1) = (fr e.next.toNat - onPath e.next.toNat (e :: rest)) * pf fr (e.next.toNat + 1) (c.g - (e.next.toNat + 1)) + sm fr (fun j => onPath j (e :: rest)) (e.next.toNat + 1) (c.g - (e.next.toNat + 1)) := rfl
      rw [h3] at h2
      have hb2 : Rest c.g fr e.bump rest (sm fr (fun j => onPath j (e :: rest)) (e.next.toNat + 1) (c.g - (e.next.toNat + 1))) := by
        right
        refine ⟨h1, ?_⟩
        rw [e1, e2, show max (e.next.toNat + 1) e.proc.toNat = e.next.toNat + 1 by omega]
        exact Nat.le_refl _
      by_cases hlt : onPath e.next.toNat (e :: rest) < fr e.next.toNat
      · -- the child is free, too
        have hb := below_lt (pushHeld held e.next.toNat) (pushRecvs recvs e.next.toNat (c.receives held e.next.toNat)) e.next.toNat
        have hcn : (c.child held recvs e.next.toNat).next.toNat ≤ e.next.toNat := by simp only [Ctx.child]; omega
        have hcp : (c.child held recvs e.next.toNat).proc = (e.next.toNat : Int) := rfl
        have hon : ∀ j, onPath j (c.child held recvs e.next.toNat :: e.bump :: rest) = (if e.next.toNat = j then 1 else 0) + onPath j (e :: rest) := by
          intro j
          show (if (c.child held recvs e.next.toNat).proc = (j : Int) then 1 else 0) + onPath j (e.bump :: rest) = _
          rw [hcp, onPath_bump]
          by_cases e3 : e.next.toNat = j
          · rw [if_pos e3, if_pos (by omega)]
          · rw [if_neg e3, if_neg (by omega)]
        have hft : FreeTop c.g fr (fun j => onPath j (c.child held recvs e.next.toNat :: e.bump :: rest)) (c.child held recvs e.next.toNat).proc := by
          refine ⟨fun j hj => ?_, fun j hj hlj => ?_⟩
          · show onPath j _ ≤ _
            rw [hon]
            have := h1.1 j hj
            simp only at this
            split
            · rename_i e3; subst e3; omega
            · omega
          · show onPath j _ = _
            rw [hon, if_neg (by rw [hcp] at hlj; omega)]
            rw [hcp] at hlj
            have := h1.2 j hj (by omega)
            simp only at this
            omega
        refine ⟨(fr e.next.toNat - onPath e.next.toNat (e :: rest)) * pf fr (e.next.toNat + 1) (c.g - (e.next.toNat + 1)) - 1, _, ?_, .inr ⟨hft, ?_⟩, hb2⟩
        · have := pf_pos fr (e.next.toNat + 1) (c.g - (e.next.toNat + 1))
          omega
        · rw [hcp, show max (c.child held recvs e.next.toNat).next.toNat ((e.next.toNat : Int)).toNat = e.next.toNat by omega, show c.g - e.next.toNat = (c.g - (e.next.toNat + 1)) + 1 by omega]
          have h5 : sm fr (fun j => onPath j (c.child held recvs e.next.toNat :: e.bump :: rest)) e.next.toNat (c.g - (e.next.toNat + 1) + 1) =
              (fr e.next.toNat - onPath e.next.toNat (c.child held recvs e.next.toNat :: e.bump :: rest)) * pf fr (e.next.toNat + 1) (c.g - (e.next.toNat + 1)) + sm fr (fun j => onPath j (c.child held recvs e.next.toNat :: e.bump :: rest)) (e.next.toNat + 1) (c.g - (e.next.toNat + 1)) := rfl
          have h6 := sm_zero fr (fun j => onPath j (c.child held recvs e.next.toNat :: e.bump :: rest)) (e.next.toNat + 1) (c.g - (e.next.toNat + 1)) (fun i a b => hft.2 i (by omega) (by rw [hcp]; omega))
          rw [h5, hon, if_pos rfl]
          obtain ⟨d, hd⟩ : ∃ d, fr e.next.toNat - onPath e.next.toNat (e :: rest) = d + 1 := ⟨fr e.next.toNat - onPath e.next.toNat (e :: rest) - 1, by omega⟩
          rw [hd, show fr e.next.toNat - (1 + onPath e.next.toNat (e :: rest)) = d by omega, Nat.add_mul, Nat.one_mul]
          omega
      · refine ⟨0, _, ?_, .inl rfl, hb2⟩
        rw [show fr e.next.toNat - onPath e.next.toNat (e :: rest) = 0 by omega] at h2
        omega

/-- Every round keeps: count + what is still to come ≥ the number of free cuts. -/
theorem pot_st {c : Ctx} (hc : c.Ok) {fr : Nat → Nat} (hf : Free c fr) (k : Nat) : ∃ X, Rests c.g fr (st c k).path X ∧ pf fr 0 c.g ≤ (st c k).count + X := by
  induction k with
  | zero =>
    have hz : ∀ j, onPath j [root] = 0 := fun j => by simp [onPath, root]
    have h1 := sm_zero fr (fun j => onPath j [root]) 0 c.g (fun i _ _ => hz i)
    refine ⟨sm fr (fun j => onPath j [root]) 0 c.g, ⟨_, 0, rfl, .inr ⟨⟨fun j _ => ?_, fun j _ _ => hz j⟩, ?_⟩, rfl⟩, ?_⟩
    · show onPath j [root] ≤ _
      rw [hz]; omega
    · simp [root]
    · show _ ≤ 1 + _
      omega
  | succ k ih =>
    obtain ⟨X, hX, hle⟩ := ih
    have hi := inv_st hc k
    show ∃ X, Rests c.g fr (nxt c (st c k)).path X ∧ pf fr 0 c.g ≤ (nxt c (st c k)).count + X
    generalize st c k = s at hX hle hi
    obtain ⟨path, held, recvs, count, steps⟩ := s
    simp only at hX hle
    cases path with
    | nil => exact ⟨X, hX, hle⟩
    | cons e rest =>
      obtain ⟨y, z, rfl, hy, hz⟩ := hX
      have he := hi.okp e (by simp)
      have hheld : ∀ j, j < c.g → held.getD j 0 = onPath j (e :: rest) := hi.held
      unfold nxt
      simp only
      by_cases hn : e.next = c.g
      · rw [if_pos hn]
        refine ⟨z, hz, ?_⟩
        have hy0 : y = 0 := by
          rcases hy with hy | ⟨_, hy⟩
          · exact hy
          · rw [show c.g - max e.next.toNat e.proc.toNat = 0 by omega] at hy
            simp only [sm] at hy
            omega
        simp only
        omega
      · rw [if_neg hn]
        split
        · obtain ⟨y1, y2, h1, h2, h3⟩ := hy.push (held := held) (recvs := recvs) hf he hn hheld
          exact ⟨y1 + (y2 + z), ⟨y1, y2 + z, rfl, h2, y2, z, rfl, h3, hz⟩, by simp only; omega⟩
        · rename_i ha
          exact ⟨y + z, ⟨y, z, rfl, hy.bump hf he hn hheld ha, hz⟩, hle⟩

/-- At the end the free cuts have been counted. -/
theorem end_free {c : Ctx} (hc : c.Ok) {fr : Nat → Nat} (hf : Free c fr) {k : Nat} (h : (st c k).path = []) : pf fr 0 c.g ≤ (st c k).count := by
  obtain ⟨X, hX, hle⟩ := pot_st hc hf k
  rw [h] at hX
  have : X = 0 := hX
  omega

/-! ### The budget -/
/-- The first k rounds are run under the budget B. -/
def Runs (c : Ctx) (B : Int) (k : Nat) : Prop := ∀ k', k' < k → (st c k').path ≠ [] ∧ (looks c (st c k') → ((st c k').steps : Int) + 1 ≤ B)
/-- The walk ends after k rounds. -/
def Done (c : Ctx) (B : Int) (k : Nat) : Prop := Runs c B k ∧ (st c k).path = []
/-- The walk is stopped at its k-th round. -/
def Fails (c : Ctx) (B : Int) (k : Nat) : Prop := Runs c B k ∧ looks c (st c k) ∧ B < ((st c k).steps : Int) + 1

theorem st_stays (c : Ctx) {k : Nat} (h : (st c k).path = []) (d : Nat) : st c (k + d) = st c k := by
  induction d with
  | zero => rfl
  | succ d ih =>
    show nxt c (st c (k + d)) = _
    rw [ih]
    unfold nxt
    rw [h]

theorem Done.unique {c : Ctx} {B B' : Int} {k k' : Nat} (h : Done c B k) (h' : Done c B' k') : k = k' := by
  by_cases a : k < k'
  · exact absurd h.2 (h'.1 k a).1
  · by_cases b : k' < k
    · exact absurd h'.2 (h.1 k' b).1
    · omega

theorem looks_ne {c : Ctx} {s : WS} (h : looks c s) : s.path ≠ [] := by
  obtain ⟨e, rest, hp, _⟩ := h
  rw [hp]; simp

/-- A walk that ends in S steps is not stopped by a budget of S or more. -/
theorem Done.not_fails {c : Ctx} {B B' : Int} {k k' : Nat} (h : Done c B k) (hB : ((st c k).steps : Int) ≤ B') (h' : Fails c B' k') : False := by
  obtain ⟨_, hl, hlt⟩ := h'
  by_cases hk : k' < k
  · have h1 := look_steps c (st c k') hl
    have h2 := st_mono c (k' + 1) (k - (k' + 1))
    rw [show k' + 1 + (k - (k' + 1)) = k by omega] at h2
    have h3 : (st c k').steps + 1 ≤ (st c k).steps := Nat.le_trans h1 h2
    omega
  · have := st_stays c h.2 (k' - k)
    rw [show k + (k' - k) = k' by omega] at this
    exact looks_ne hl (by rw [this]; exact h.2)

theorem Done.last {c : Ctx} (hc : c.Ok) {B : Int} {k : Nat} (h : Done c B k) : ∃ k', k' < k ∧ looks c (st c k') ∧ (st c k).steps = (st c k').steps + 1 := by
  rcases last_look hc k with h1 | h1
  · exact h1
  · exact absurd h.2 (looks_ne h1)

/-- It ends within its budget. -/
theorem Done.le {c : Ctx} (hc : c.Ok) {B : Int} {k : Nat} (h : Done c B k) : ((st c k).steps : Int) ≤ B := by
  obtain ⟨k', hk, hl, he⟩ := h.last hc
  have := (h.1 k' hk).2 hl
  omega

/-- With one step less it does not end. -/
theorem Done.not_less {c : Ctx} (hc : c.Ok) {B : Int} {k k' : Nat} (h : Done c B k) (h' : Done c (((st c k).steps : Int) - 1) k') : False := by
  obtain rfl := h.unique h'
  have := h'.le hc
  omega
end Go.Proofs.Qxb6603214a.WalkP
