import Derived.Test.Qxb6603214aWMem
import Derived.Test.Qxb6603214aS4Q
namespace Go.Proofs.Qxb6603214a
open Go.RowKit Go.Maps WalkP
set_option linter.unusedVariables false

/-! ### The walk's first phase, plainly -/
/-- How many of the n events from lo on come before the first that crosses. -/
def freeN (cr : Nat → Bool) : Nat → Nat → Nat
  | _, 0 => 0
  | lo, n + 1 => if cr lo = true then 0 else freeN cr (lo + 1) n + 1
theorem freeN_le (cr : Nat → Bool) (lo n : Nat) : freeN cr lo n ≤ n := by
  induction n generalizing lo with
  | zero => exact Nat.le_refl _
  | succ n ih =>
    unfold freeN
    have := ih (lo + 1)
    split <;> omega
theorem freeN_free (cr : Nat → Bool) (lo n k : Nat) (h : k < freeN cr lo n) : cr (lo + k) = false := by
  induction n generalizing lo k with
  | zero => exact absurd h (Nat.not_lt_zero _)
  | succ n ih =>
    unfold freeN at h
    split at h
    · omega
    · rename_i hc
      cases k with
      | zero => simpa using hc
      | succ k =>
        have := ih (lo + 1) k (by omega)
        rwa [show lo + 1 + k = lo + (k + 1) by omega] at this
/-- One event more. -/
theorem freeN_on (cr : Nat → Bool) (lo n f : Nat) (hf : f < n) (hc : cr (lo + f) = false) (h : freeN cr lo n = f + freeN cr (lo + f) (n - f)) : freeN cr lo n = (f + 1) + freeN cr (lo + (f + 1)) (n - (f + 1)) := by
  rw [h, show n - f = (n - (f + 1)) + 1 by omega]
  show f + (if cr (lo + f) = true then 0 else freeN cr (lo + f + 1) (n - (f + 1)) + 1) = _
  rw [hc, if_neg (by simp), show lo + f + 1 = lo + (f + 1) by omega]
  omega
theorem freeN_end (cr : Nat → Bool) (lo n f : Nat) (hc : cr (lo + f) = true) (h : freeN cr lo n = f + freeN cr (lo + f) (n - f)) : freeN cr lo n = f := by
  rw [h]
  cases hn : n - f with
  | zero => rfl
  | succ m =>
    show f + (if cr (lo + f) = true then 0 else _) = f
    rw [if_pos hc]; rfl

/-- The free events of each place. -/
def frOf (c : Ctx) (j : Nat) : Nat := freeN (c.cross (c.p j)) (c.ls.getD (c.p j) 0).toNat (c.ls.getD (c.p j + 1) 0 - c.ls.getD (c.p j) 0).toNat
/-- 'local' after j places. -/
def locN (grp : List Int) (np : Nat) : Nat → List Int
  | 0 => List.replicate np 0
  | j + 1 => (locN grp np j).set (grp.getD j 0).toNat j
theorem locN_len (grp : List Int) (np j : Nat) : (locN grp np j).length = np := by
  induction j with
  | zero => simp [locN]
  | succ j ih => simp [locN, ih]
theorem locN_bd (grp : List Int) (np j q : Nat) : 0 ≤ (locN grp np j).getD q 0 ∧ ((locN grp np j).getD q 0 < j ∨ (locN grp np j).getD q 0 = 0) := by
  induction j with
  | zero => unfold locN; rw [Lamp.getD_replicate]; omega
  | succ j ih =>
    unfold locN
    by_cases hl : (grp.getD j 0).toNat < np
    · rw [WalkP.getD_set _ _ _ _ (by rw [locN_len]; exact hl)]
      split <;> omega
    · rw [List.set_eq_of_length_le (by rw [locN_len]; omega)]
      omega

/-- The context of a walk. -/
def ctxOf (np g : Nat) (grp ls pr sd sq : List Int) : Ctx := { g := g, grp := grp, ev := evTo ls np np, ls := ls, sd := sd, pr := pr, sq := sq, loc := locN grp np g }
theorem ctx_ok {np g : Nat} {grp ls pr sd sq : List Int} (hg : 0 < g) : (ctxOf np g grp ls pr sd sq).Ok where
  pos := hg
  loc0 q := (locN_bd grp np g q).1
  loc1 q := by
    have := (locN_bd grp np g q).2
    show (locN grp np g).getD q 0 < (g : Int)
    omega
theorem ctx_free {np n g : Nat} {grp ls pr sd sq : List Int} (hL : Lanes np n ls) (hgr : ∀ j, j < g → InR np (grp.getD j 0)) : Free (ctxOf np g grp ls pr sd sq) (frOf (ctxOf np g grp ls pr sd sq)) where
  le j hj := by
    have hr := hgr j hj
    have hp : (ctxOf np g grp ls pr sd sq).p j < np := by show (grp.getD j 0).toNat < np; have := hr.2; have := hr.1; omega
    have h1 := freeN_le ((ctxOf np g grp ls pr sd sq).cross ((ctxOf np g grp ls pr sd sq).p j)) (ls.getD ((ctxOf np g grp ls pr sd sq).p j) 0).toNat (ls.getD ((ctxOf np g grp ls pr sd sq).p j + 1) 0 - ls.getD ((ctxOf np g grp ls pr sd sq).p j) 0).toNat
    have h2 := hL.up _ hp
    show ((freeN _ _ _ : Nat) : Int) ≤ (evTo ls np np).getD _ 0
    rw [evTo_at ls np _ hp]
    have h3 : (ctxOf np g grp ls pr sd sq).ls = ls := rfl
    rw [h3]
    omega
  ls0 j hj := by
    have hr := hgr j hj
    have hp : (ctxOf np g grp ls pr sd sq).p j < np := by show (grp.getD j 0).toNat < np; have := hr.2; have := hr.1; omega
    exact hL.lo _ (by omega)
  free j hj k hk := by
    have hr := hgr j hj
    have hp : (ctxOf np g grp ls pr sd sq).p j < np := by show (grp.getD j 0).toNat < np; have := hr.2; have := hr.1; omega
    have h0 := hL.lo _ (Nat.le_of_lt hp)
    have := freeN_free _ _ _ _ hk
    have e : (ls.getD ((ctxOf np g grp ls pr sd sq).p j) 0).toNat + k = (ls.getD ((ctxOf np g grp ls pr sd sq).p j) 0 + k).toNat := by omega
    show (ctxOf np g grp ls pr sd sq).cross _ (ls.getD ((ctxOf np g grp ls pr sd sq).p j) 0 + k).toNat = false
    rw [← e]
    exact this

theorem pf_snoc (fr : Nat → Nat) (j k : Nat) : pf fr j (k + 1) = pf fr j k * (fr (j + k) + 1) := by
  induction k generalizing j with
  | zero => simp [pf]
  | succ k ih =>
    have h1 : pf fr j (k + 1 + 1) = (fr j + 1) * pf fr (j + 1) (k + 1) := rfl
    have h2 : pf fr j (k + 1) = (fr j + 1) * pf fr (j + 1) k := rfl
    rw [h1, ih (j + 1), h2, Nat.mul_assoc, show j + 1 + k = j + (k + 1) by omega]
theorem pf_mono (fr : Nat → Nat) (j k d : Nat) : pf fr j k ≤ pf fr j (k + d) := by
  induction d with
  | zero => exact Nat.le_refl _
  | succ d ih =>
    rw [show k + (d + 1) = (k + d) + 1 by omega, pf_snoc]
    exact Nat.le_trans ih (Nat.le_mul_of_pos_right _ (by omega))

/-- 'least > budget / (free + 1)'. -/
theorem quo_le (B : Int) (l m : Nat) (hl : 1 ≤ l) (hm : 1 ≤ m) : (B.tdiv m < l) ↔ B < l * m := by
  by_cases hB : 0 ≤ B
  · rw [Int.tdiv_eq_ediv_of_nonneg hB]
    exact Int.ediv_lt_iff_lt_mul (by omega)
  · constructor
    · intro _
      have : (0 : Int) ≤ (l : Int) * m := Int.mul_nonneg (by omega) (by omega)
      omega
    · intro _
      have h1 : B.tdiv m ≤ 0 := by
        have h2 : B.tdiv m = -((-B).tdiv m) := by rw [Int.neg_tdiv, Int.neg_neg]
        have h3 : 0 ≤ (-B).tdiv m := Int.tdiv_nonneg (by omega) (by omega)
        omega
      omega

/-! ### What walk answers -/
def Outs (c : Ctx) (fr : Nat → Nat) (B x s : Int) (ok : Bool) : Prop :=
  (c.g = 0 ∧ x = 1 ∧ s = 0 ∧ ok = true) ∨ (0 < c.g ∧ B < (pf fr 0 c.g : Int) ∧ x = 0 ∧ s = 0 ∧ ok = false) ∨
  (0 < c.g ∧ (pf fr 0 c.g : Int) ≤ B ∧ ∃ k, (Done c B k ∧ x = (st c k).count ∧ s = (st c k).steps ∧ ok = true) ∨ (Fails c B k ∧ x = 0 ∧ s = ((st c k).steps : Int) + 1 ∧ ok = false))
def WalkSays (c : Ctx) (fr : Nat → Nat) (B : Int) (w : World) (e : Ending) (w' : World) : Prop :=
  Below w.heap.size w w' ∧ ∃ (x s : Int) (ok : Bool), e = .returned (.tuple #[.int .i64 x, .int .i64 s, .bool ok]) ∧ Outs c fr B x s ok

theorem nxt_steps_le {c : Ctx} (s : WS) (h : ∀ e ∈ s.path, OkE c.g e) : (nxt c s).steps ≤ s.steps + 1 + c.g := by
  unfold nxt
  split
  · omega
  · rename_i e rest hp
    have he := h e (by rw [hp]; simp)
    split
    · simp only; omega
    · split
      · have := (below_lt (pushHeld s.held e.next.toNat) (pushRecvs s.recvs e.next.toNat (c.receives s.held e.next.toNat)) e.next.toNat).2.2
        have := he.n1
        simp only
        omega
      · simp only; omega
/-- Under a budget the steps are bounded. -/
theorem runs_steps {c : Ctx} (hc : c.Ok) {B : Int} : ∀ k, Runs c B k → ((st c k).steps : Int) ≤ max B 0 + c.g := by
  intro k
  induction k with
  | zero => intro _; show ((0 : Nat) : Int) ≤ _; omega
  | succ k ih =>
    intro h
    have h1 := ih (fun k' hk => h k' (by omega))
    have h2 := h k (by omega)
    by_cases hl : looks c (st c k)
    · have h3 := h2.2 hl
      have h4 := nxt_steps_le (st c k) (inv_st hc k).okp
      show ((nxt c (st c k)).steps : Int) ≤ _
      omega
    · show ((nxt c (st c k)).steps : Int) ≤ _
      cases hp : (st c k).path with
      | nil => exact absurd hp h2.1
      | cons e rest =>
        have hn : e.next = c.g := by
          by_cases hn : e.next = c.g
          · exact hn
          · exact absurd ⟨e, rest, hp, hn⟩ hl
        unfold nxt; rw [hp]; simp only [hn, if_true]; exact h1
end Go.Proofs.Qxb6603214a
