import Derived.Test.Qxb6603214aS4L
import Derived.Test.Qxb6603214aShp
namespace Go.Proofs.Qxb6603214a
open Go.RowKit Go.Maps
set_option linter.unusedVariables false

theorem Lanes.find {np n : Nat} {ls : List Int} (h : Lanes np n ls) (i : Nat) (hi : i < n) : ∃ p, p < np ∧ ls.getD p 0 ≤ i ∧ (i : Int) < ls.getD (p + 1) 0 := by
  have key : ∀ k, k ≤ np → (i : Int) < ls.getD k 0 → ∃ p, p < k ∧ ls.getD p 0 ≤ i ∧ (i : Int) < ls.getD (p + 1) 0 := by
    intro k
    induction k with
    | zero => intro _ h0; have := h.first; omega
    | succ k ih =>
      intro hk h0
      by_cases e : (i : Int) < ls.getD k 0
      · obtain ⟨p, h1, h2⟩ := ih (by omega) e
        exact ⟨p, by omega, h2⟩
      · exact ⟨k, by omega, by omega, h0⟩
  exact key np (Nat.le_refl _) (by rw [h.last]; omega)

theorem Shape.inR {np n : Nat} {ls pr sd : List Int} (h : Shape np n ls pr sd) (i : Nat) (hi : i < n) : InR np (pr.getD i 0) := by
  obtain ⟨p, h1, h2, h3⟩ := h.lanes.find i hi
  rw [h.own p i h1 h2 h3]
  exact ⟨by omega, by omega⟩

/-- The seqs are positions. -/
def Seqs (np : Nat) (ls sq : List Int) : Prop := ∀ p i : Nat, p < np → ls.getD p 0 ≤ i → (i : Int) < ls.getD (p + 1) 0 → sq.getD i 0 = i - ls.getD p 0 + 1

theorem Shape.rise {np n : Nat} {ls pr sd sq : List Int} (h : Shape np n ls pr sd) (hs : Seqs np ls sq) : ∀ i k, i < k → k < n → pr.getD i 0 = pr.getD k 0 → sq.getD i 0 < sq.getD k 0 := by
  intro i k hik hk he
  obtain ⟨p, h1, h2, h3⟩ := h.lanes.find i (by omega)
  obtain ⟨q, g1, g2, g3⟩ := h.lanes.find k hk
  have e : p = q := by
    have e1 := h.own p i h1 h2 h3
    have e2 := h.own q k g1 g2 g3
    omega
  subst e
  rw [hs p i h1 h2 h3, hs p k g1 g2 g3]
  omega
theorem Shape.seq_pos {np n : Nat} {ls pr sd sq : List Int} (h : Shape np n ls pr sd) (hs : Seqs np ls sq) (i : Nat) (hi : i < n) : 1 ≤ sq.getD i 0 := by
  obtain ⟨p, h1, h2, h3⟩ := h.lanes.find i hi
  rw [hs p i h1 h2 h3]
  omega

/-- What the law asks of the counter's plain state. -/
structure Sums (np n : Nat) (pr sd sq : List Int) (s : LS) : Prop where
  mem : ∀ p x, x ∈ uniq (s.tk p) ↔ ∃ i, i < n ∧ (Pair pr sd i p x ∨ Pair pr sd i x p)
  tup : ∀ p, (uniq (s.tk p)).Pairwise (· < ·)
  tlen : ∀ p, (uniq (s.tk p)).length ≤ 10000
  inr : ∀ p x, x ∈ uniq (s.tk p) → InR np x ∧ p ≠ x
  pres : ∀ i, i < n → ∀ p q, Pair pr sd i p q → s.pres p q = true
  ne : ∀ p q, s.pres p q = true → s.rc p q ≠ []
  len : ∀ p q, (s.rc p q).length = (s.sn p q).length
  rlen : ∀ p q, (s.rc p q).length ≤ 5000
  first : ∀ p q, s.pres p q = true → 1 ≤ (s.sn p q).getD 0 0
  rcs : ∀ p q, (s.rc p q).Pairwise (· < ·)
  sns : ∀ p q, (s.sn p q).Pairwise (· < ·)
  need : ∀ p q, p ≠ q → ∀ c, linkTo (s.rc p q) (s.sn p q) c (s.rc p q).length = needTo pr sd sq p q c n
  sz : s.sz = firsts pr sd n

theorem sums_of {np n : Nat} {ls pr sd sq : List Int} (hn : n ≤ 5000) (h : Shape np n ls pr sd) (hs : Seqs np ls sq) : Sums np n pr sd sq (lsAt pr sd sq n) := by
  have hi := lsi_at pr sd sq n (h.rise hs) n (Nat.le_refl _)
  have hb := lsb_at pr sd sq n
  generalize lsAt pr sd sq n = s at *
  have hmem : ∀ p x, x ∈ uniq (s.tk p) ↔ ∃ i, i < n ∧ (Pair pr sd i p x ∨ Pair pr sd i x p) := fun p x => by rw [(uniq_spec (s.tk p)).2 x, hi.tk]
  have hsd : ∀ i, i < n → 0 ≤ sd.getD i 0 → (sd.getD i 0).toNat < n := fun i hlt h0 => by
    have := h.senders.lt i hlt
    omega
  have hpair : ∀ i p q, i < n → Pair pr sd i p q → InR np p ∧ InR np q := fun i p q hlt hp => by
    have h0 := (of_decide_eq_true hp.1).1
    refine ⟨?_, ?_⟩
    · rw [← hp.2.1]; exact h.inR i hlt
    · rw [← hp.2.2]; exact h.inR _ (hsd i hlt h0)
  exact {
    mem := hmem
    tup := fun p => (uniq_spec (s.tk p)).1
    tlen := fun p => by
      have h1 := uniq_length_le (s.tk p)
      have h2 := hb.tkl p
      omega
    inr := fun p x hx => by
      obtain ⟨i, hlt, hp | hp⟩ := (hmem p x).1 hx
      · exact ⟨(hpair i p x hlt hp).2, hp.ne⟩
      · exact ⟨(hpair i x p hlt hp).1, fun e => hp.ne e.symm⟩
    pres := fun i hlt p q hp => (hi.pres p q).2 ⟨i, hlt, hp⟩
    ne := hi.ne
    len := hi.len
    rlen := fun p q => by have := hb.rcl p q; omega
    first := fun p q hp => by
      have h1 := hi.ne p q hp
      have h2 := hi.len p q
      have h3 : 0 < (s.sn p q).length := by
        have := List.length_pos_iff.2 h1
        omega
      obtain ⟨i, hlt, h0, e⟩ := hi.snm p q _ (getD_mem _ 0 h3)
      rw [← e]
      exact h.seq_pos hs _ (hsd i hlt h0)
    rcs := hi.rcs
    sns := hi.sns
    need := fun p q hpq c => hi.need p q c hpq
    sz := hi.sz }

set_option maxHeartbeats 400000 in
theorem newCut20 {np : Nat} {rp : Value} {ev : List Int} {s : LS} (R : Nat) (w : World) (h : Calls Try.prog 38 #[.pointer (some ⟨R, 0, none⟩)] w (NCMade w np rp ev s)) : Calls Try.prog 20 #[.pointer (some ⟨R, 0, none⟩)] w (NCMade w np rp ev s) := by
  have H : Hid (Calls Try.prog 38 #[.pointer (some ⟨R, 0, none⟩)] w (NCMade w np rp ev s)) := h
  clear h
  go_enter Try.func20, Try.ntmps20
  go_wp2_with fail
  refine H.out.mono ?_
  rintro e w' ⟨C, Ge, Mb, T, rfl, r1⟩
  go_wp2
  go_ret
  exact ⟨C, Ge, Mb, T, rfl, r1⟩
theorem evTo_at (ls : List Int) (np k : Nat) (hk : k < np) : (evTo ls np np).getD k 0 = ls.getD (k + 1) 0 - ls.getD k 0 := by
  unfold evTo
  simp [hk]
theorem evTo_len (ls : List Int) (np k : Nat) : (evTo ls np k).length = np := by simp [evTo]
theorem firsts_no {pr sd : List Int} {k : Nat} (h : crossB pr sd k = false) : firsts pr sd (k + 1) = firsts pr sd k := by
  show (if _ then _ else _) = _
  rw [if_neg (by rw [h]; simp)]
theorem firsts_again {pr sd : List Int} {k : Nat} (h : earlier pr sd k = true) : firsts pr sd (k + 1) = firsts pr sd k := by
  show (if _ then _ else _) = _
  rw [if_neg (by rw [h]; simp)]
theorem firsts_new {pr sd : List Int} {k : Nat} (h : crossB pr sd k = true) (h2 : earlier pr sd k = false) : firsts pr sd (k + 1) = firsts pr sd k + 1 := by
  show (if _ then _ else _) = _
  rw [if_pos ⟨h, h2⟩]
end Go.Proofs.Qxb6603214a
