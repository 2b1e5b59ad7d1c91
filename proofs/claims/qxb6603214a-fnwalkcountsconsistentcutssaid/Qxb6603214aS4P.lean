import Derived.Test.Qxb6603214aCutP
namespace Go.Proofs.Qxb6603214a
open Go.RowKit Go.Maps
set_option linter.unusedVariables false

/-! ### What newCutCounter gathers, told of the run -/
/-- Event i of p receives a message of q, another process. -/
def Pair (pr sd : List Int) (i : Nat) (p q : Int) : Prop := crossB pr sd i = true ∧ pr.getD i 0 = p ∧ sendP pr sd i = q
theorem Pair.ne {pr sd : List Int} {i : Nat} {p q : Int} (h : Pair pr sd i p q) : p ≠ q := by
  obtain ⟨h1, h2, h3⟩ := h
  unfold crossB at h1
  have := (of_decide_eq_true h1).2
  unfold sendP at h3
  rw [h2, h3] at this
  exact fun e => this e.symm
theorem pair_iff {pr sd : List Int} {i : Nat} {p q : Int} (hne : p ≠ q) : Pair pr sd i p q ↔ (0 ≤ sd.getD i 0 ∧ pr.getD i 0 = p ∧ pr.getD (sd.getD i 0).toNat 0 = q) := by
  constructor
  · rintro ⟨h1, h2, h3⟩
    exact ⟨(of_decide_eq_true h1).1, h2, h3⟩
  · rintro ⟨h1, h2, h3⟩
    refine ⟨?_, h2, h3⟩
    unfold crossB
    rw [decide_eq_true_eq]
    exact ⟨h1, by rw [h2, h3]; exact fun e => hne e.symm⟩

/-- zzNeed, over the first k events. -/
def needTo (pr sd sq : List Int) (p q c : Int) : Nat → Int
  | 0 => 0
  | k + 1 => if (0 ≤ sd.getD k 0 ∧ pr.getD k 0 = p ∧ pr.getD (sd.getD k 0).toNat 0 = q) ∧ sq.getD k 0 ≤ c ∧ needTo pr sd sq p q c k < sq.getD (sd.getD k 0).toNat 0 then sq.getD (sd.getD k 0).toNat 0 else needTo pr sd sq p q c k
/-- zzLinkNeed, over the first k entries. -/
def linkTo (rc sn : List Int) (c : Int) : Nat → Int
  | 0 => 0
  | k + 1 => if rc.getD k 0 ≤ c ∧ linkTo rc sn c k < sn.getD k 0 then sn.getD k 0 else linkTo rc sn c k

theorem linkTo_app (rc sn : List Int) (c : Int) (r x : Int) : ∀ k, k ≤ rc.length → k ≤ sn.length → linkTo (rc ++ [r]) (sn ++ [x]) c k = linkTo rc sn c k := by
  intro k
  induction k with
  | zero => intros; rfl
  | succ k ih =>
    intro h1 h2
    have e1 : (rc ++ [r]).getD k 0 = rc.getD k 0 := by
      simp [List.getD_eq_getElem?_getD, List.getElem?_append, show k < rc.length by omega]
    have e2 : (sn ++ [x]).getD k 0 = sn.getD k 0 := by
      simp [List.getD_eq_getElem?_getD, List.getElem?_append, show k < sn.length by omega]
    unfold linkTo
    rw [ih (by omega) (by omega), e1, e2]
theorem linkTo_snoc (rc sn : List Int) (c : Int) (r x : Int) (hl : rc.length = sn.length) : linkTo (rc ++ [r]) (sn ++ [x]) c (rc.length + 1) = if r ≤ c ∧ linkTo rc sn c rc.length < x then x else linkTo rc sn c rc.length := by
  have e1 : (rc ++ [r]).getD rc.length 0 = r := by simp [List.getD_eq_getElem?_getD]
  have e2 : (sn ++ [x]).getD rc.length 0 = x := by rw [hl]; simp [List.getD_eq_getElem?_getD]
  show (if (rc ++ [r]).getD rc.length 0 ≤ c ∧ linkTo (rc ++ [r]) (sn ++ [x]) c rc.length < (sn ++ [x]).getD rc.length 0 then (sn ++ [x]).getD rc.length 0 else linkTo (rc ++ [r]) (sn ++ [x]) c rc.length) = _
  rw [linkTo_app rc sn c r x rc.length (Nat.le_refl _) (by omega), e1, e2]
/-- Where every receive is held, no send lies above. -/
theorem linkTo_ge (rc sn : List Int) (c : Int) : ∀ k j, j < k → (∀ i, i < k → rc.getD i 0 ≤ c) → sn.getD j 0 ≤ linkTo rc sn c k := by
  intro k
  induction k with
  | zero => intro j hj; omega
  | succ k ih =>
    intro j hj hall
    unfold linkTo
    have hk := hall k (by omega)
    by_cases e : j = k
    · subst e
      split
      · exact Int.le_refl _
      · omega
    · have := ih j (by omega) (fun i hi => hall i (by omega))
      split
      · omega
      · exact this

/-- How many of the first k events are the first of their pair. -/
def earlier (pr sd : List Int) (k : Nat) : Bool := (List.range k).any (fun j => crossB pr sd j && (decide (pr.getD j 0 = pr.getD k 0) && decide (sendP pr sd j = sendP pr sd k)))
theorem earlier_iff (pr sd : List Int) (k : Nat) : earlier pr sd k = true ↔ ∃ j, j < k ∧ Pair pr sd j (pr.getD k 0) (sendP pr sd k) := by
  unfold earlier
  rw [List.any_eq_true]
  constructor
  · rintro ⟨j, hj, h⟩
    simp only [Bool.and_eq_true, decide_eq_true_eq] at h
    exact ⟨j, List.mem_range.1 hj, h⟩
  · rintro ⟨j, hj, h⟩
    refine ⟨j, List.mem_range.2 hj, ?_⟩
    simp only [Bool.and_eq_true, decide_eq_true_eq]
    exact h
def firsts (pr sd : List Int) : Nat → Nat
  | 0 => 0
  | k + 1 => if crossB pr sd k = true ∧ earlier pr sd k = false then firsts pr sd k + 1 else firsts pr sd k
theorem firsts_le (pr sd : List Int) (k : Nat) : firsts pr sd k ≤ k := by
  induction k with
  | zero => exact Nat.le_refl _
  | succ k ih => unfold firsts; split <;> omega

structure LSi (pr sd sq : List Int) (k : Nat) (s : LS) : Prop where
  pres : ∀ p q, s.pres p q = true ↔ ∃ i, i < k ∧ Pair pr sd i p q
  tk : ∀ p x, x ∈ s.tk p ↔ ∃ i, i < k ∧ (Pair pr sd i p x ∨ Pair pr sd i x p)
  len : ∀ p q, (s.rc p q).length = (s.sn p q).length
  rcm : ∀ p q r, r ∈ s.rc p q → ∃ i, i < k ∧ pr.getD i 0 = p ∧ sq.getD i 0 = r
  snm : ∀ p q x, x ∈ s.sn p q → ∃ i, i < k ∧ 0 ≤ sd.getD i 0 ∧ sq.getD (sd.getD i 0).toNat 0 = x
  rcs : ∀ p q, (s.rc p q).Pairwise (· < ·)
  sns : ∀ p q, (s.sn p q).Pairwise (· < ·)
  need : ∀ p q c, p ≠ q → linkTo (s.rc p q) (s.sn p q) c (s.rc p q).length = needTo pr sd sq p q c k
  ne : ∀ p q, s.pres p q = true → s.rc p q ≠ []
  sz : s.sz = firsts pr sd k

theorem pair_succ {pr sd : List Int} {k : Nat} {p q : Int} : (∃ i, i < k + 1 ∧ Pair pr sd i p q) ↔ ((∃ i, i < k ∧ Pair pr sd i p q) ∨ Pair pr sd k p q) := by
  constructor
  · rintro ⟨i, hi, h⟩
    by_cases e : i = k
    · subst e; exact .inr h
    · exact .inl ⟨i, by omega, h⟩
  · rintro (⟨i, hi, h⟩ | h)
    · exact ⟨i, by omega, h⟩
    · exact ⟨k, by omega, h⟩
theorem pair2_succ {pr sd : List Int} {k : Nat} {p q : Int} : (∃ i, i < k + 1 ∧ (Pair pr sd i p q ∨ Pair pr sd i q p)) ↔ ((∃ i, i < k ∧ (Pair pr sd i p q ∨ Pair pr sd i q p)) ∨ (Pair pr sd k p q ∨ Pair pr sd k q p)) := by
  constructor
  · rintro ⟨i, hi, h⟩
    by_cases e : i = k
    · subst e; exact .inr h
    · exact .inl ⟨i, by omega, h⟩
  · rintro (⟨i, hi, h⟩ | h)
    · exact ⟨i, by omega, h⟩
    · exact ⟨k, by omega, h⟩
theorem pair_at {pr sd : List Int} {k : Nat} {p q : Int} (hc : crossB pr sd k = true) : Pair pr sd k p q ↔ (pr.getD k 0 = p ∧ sendP pr sd k = q) := ⟨fun h => h.2, fun h => ⟨hc, h⟩⟩
theorem pair_no {pr sd : List Int} {k : Nat} {p q : Int} (hc : crossB pr sd k = false) : ¬ Pair pr sd k p q := fun h => by have := h.1; rw [hc] at this; cases this

theorem lsi_no {pr sd sq : List Int} {k : Nat} {s : LS} (h : LSi pr sd sq k s) (hc : crossB pr sd k = false) : LSi pr sd sq (k + 1) s where
  pres p q := by rw [h.pres, pair_succ]; simp [pair_no hc]
  tk p x := by rw [h.tk, pair2_succ]; simp [pair_no hc]
  len := h.len
  rcm p q r hr := by obtain ⟨i, hi, e⟩ := h.rcm p q r hr; exact ⟨i, by omega, e⟩
  snm p q r hr := by obtain ⟨i, hi, e⟩ := h.snm p q r hr; exact ⟨i, by omega, e⟩
  rcs := h.rcs
  sns := h.sns
  need p q c hne := by
    rw [h.need p q c hne]
    show _ = if _ then _ else _
    rw [if_neg]
    rintro ⟨h1, _⟩
    exact pair_no hc ((pair_iff hne).2 h1)
  ne := h.ne
  sz := by
    rw [h.sz]
    show _ = if _ then _ else _
    rw [if_neg]
    rintro ⟨h1, _⟩
    rw [hc] at h1; cases h1

/-- The link laid, if it was not. -/
theorem lsi_link {pr sd sq : List Int} {k : Nat} {s : LS} (h : LSi pr sd sq k s) (hc : crossB pr sd k = true) {p q : Int} (hp : pr.getD k 0 = p) (hq : sendP pr sd k = q) :
    (∀ r t, (s.link p q).pres r t = true ↔ ∃ i, i < k + 1 ∧ Pair pr sd i r t) ∧ (∀ r x, x ∈ (s.link p q).tk r ↔ ∃ i, i < k + 1 ∧ (Pair pr sd i r x ∨ Pair pr sd i x r)) ∧ (s.link p q).rc = s.rc ∧ (s.link p q).sn = s.sn ∧ (s.link p q).sz = firsts pr sd (k + 1) := by
  have hK : Pair pr sd k p q := ⟨hc, hp, hq⟩
  have hpq := hK.ne
  unfold LS.link
  split
  · rename_i hpres
    have hex := (h.pres p q).1 hpres
    refine ⟨fun r t => ?_, fun r x => ?_, rfl, rfl, ?_⟩
    · rw [h.pres, pair_succ, pair_at hc, hp, hq]
      constructor
      · exact .inl
      · rintro (h1 | ⟨rfl, rfl⟩)
        · exact h1
        · exact hex
    · rw [h.tk, pair2_succ, pair_at hc, pair_at hc, hp, hq]
      constructor
      · exact .inl
      · rintro (h1 | ⟨rfl, rfl⟩ | ⟨rfl, rfl⟩)
        · exact h1
        · obtain ⟨i, hi, e⟩ := hex; exact ⟨i, hi, .inl e⟩
        · obtain ⟨i, hi, e⟩ := hex; exact ⟨i, hi, .inr e⟩
    · rw [h.sz]
      show _ = if _ then _ else _
      rw [if_neg]
      rintro ⟨_, h2⟩
      have := (earlier_iff pr sd k).2 (by rw [hp, hq]; exact hex)
      rw [h2] at this; cases this
  · rename_i hpres
    have hex : ¬ ∃ i, i < k ∧ Pair pr sd i p q := fun e => hpres ((h.pres p q).2 e)
    refine ⟨fun r t => ?_, fun r x => ?_, rfl, rfl, ?_⟩
    · rw [pair_succ, pair_at hc, hp, hq, ← h.pres]
      simp only [LS.newLink, setII]
      by_cases e : r = p ∧ t = q
      · rw [if_pos e]
        simp [e.1, e.2]
      · rw [if_neg e]
        constructor
        · exact .inl
        · rintro (h1 | ⟨e1, e2⟩)
          · exact h1
          · exact absurd ⟨e1.symm, e2.symm⟩ e
    · rw [pair2_succ, pair_at hc, pair_at hc, hp, hq, ← h.tk]
      simp only [LS.newLink, setI]
      by_cases e1 : r = q
      · subst e1
        rw [if_pos rfl, if_neg (fun e => hpq e.symm), List.mem_append, List.mem_singleton]
        constructor
        · rintro (h1 | rfl)
          · exact .inl h1
          · exact .inr (.inr ⟨rfl, rfl⟩)
        · rintro (h1 | ⟨e, _⟩ | ⟨e, _⟩)
          · exact .inl h1
          · exact absurd e hpq
          · exact .inr e.symm
      · rw [if_neg e1]
        by_cases e2 : r = p
        · subst e2
          rw [if_pos rfl, List.mem_append, List.mem_singleton]
          constructor
          · rintro (h1 | rfl)
            · exact .inl h1
            · exact .inr (.inl ⟨rfl, rfl⟩)
          · rintro (h1 | ⟨_, e⟩ | ⟨_, e⟩)
            · exact .inl h1
            · exact .inr e.symm
            · exact absurd e.symm e1
        · rw [if_neg e2]
          constructor
          · exact .inl
          · rintro (h1 | ⟨e, _⟩ | ⟨_, e⟩)
            · exact h1
            · exact absurd e.symm e2
            · exact absurd e.symm e1
    · show s.sz + 1 = if _ then _ else _
      have hee : earlier pr sd k = false := by
        cases he : earlier pr sd k with
        | false => rfl
        | true =>
          have := (earlier_iff pr sd k).1 he
          rw [hp, hq] at this
          exact absurd this hex
      rw [if_pos ⟨hc, hee⟩, h.sz]

theorem getD_mem (l : List Int) (j : Nat) (h : j < l.length) : l.getD j 0 ∈ l := by
  rw [List.getD_eq_getElem?_getD, List.getElem?_eq_getElem h]
  exact List.getElem_mem h

theorem rise_snoc {l : List Int} {x : Int} (h : l.Pairwise (· < ·)) (hx : ∀ y ∈ l, y < x) : (l ++ [x]).Pairwise (· < ·) := by
  rw [List.pairwise_append]
  exact ⟨h, List.pairwise_singleton _ _, fun a ha b hb => by rw [List.mem_singleton] at hb; subst hb; exact hx a ha⟩
/-- The last of a rising list is its largest. -/
theorem rise_last {l : List Int} (h : l.Pairwise (· < ·)) : ∀ y ∈ l, y ≤ l.getD (l.length - 1) 0 := by
  intro y hy
  obtain ⟨i, hi, rfl⟩ := List.mem_iff_getElem.1 hy
  have e : l.getD (l.length - 1) 0 = l[l.length - 1] := by
    rw [List.getD_eq_getElem?_getD, List.getElem?_eq_getElem (by omega)]; rfl
  rw [e]
  by_cases hh : i = l.length - 1
  · subst hh; exact Int.le_refl _
  · exact Int.le_of_lt (List.pairwise_iff_getElem.1 h i (l.length - 1) hi (by omega) (by omega))

theorem lsi_at (pr sd sq : List Int) (n : Nat) (hrise : ∀ i k, i < k → k < n → pr.getD i 0 = pr.getD k 0 → sq.getD i 0 < sq.getD k 0) : ∀ k, k ≤ n → LSi pr sd sq k (lsAt pr sd sq k) := by
  intro k
  induction k with
  | zero =>
    intro _
    exact { pres := fun p q => by simp [lsAt, ls0], tk := fun p x => by simp [lsAt, ls0], len := fun _ _ => rfl, rcm := fun p q r h => by simp [lsAt, ls0] at h, snm := fun p q r h => by simp [lsAt, ls0] at h, rcs := fun _ _ => List.Pairwise.nil, sns := fun _ _ => List.Pairwise.nil, need := fun _ _ _ _ => rfl, ne := fun p q h => by simp [lsAt, ls0] at h, sz := rfl }
  | succ k ih =>
    intro hk
    have h := ih (by omega)
    show LSi pr sd sq (k + 1) (lsStep pr sd sq k (lsAt pr sd sq k))
    unfold lsStep
    cases hc : crossB pr sd k with
    | false => rw [if_neg (by simp)]; exact lsi_no h hc
    | true =>
      rw [if_pos rfl]
      generalize hp : pr.getD k 0 = p
      generalize hq : sendP pr sd k = q
      have hK : Pair pr sd k p q := ⟨hc, hp, hq⟩
      have hpq := hK.ne
      obtain ⟨l1, l2, l3, l4, l5⟩ := lsi_link h hc hp hq
      generalize hs : lsAt pr sd sq k = s at *
      generalize hs1 : s.link p q = s1 at *
      generalize hr : sq.getD k 0 = r
      generalize hx : sq.getD (sd.getD k 0).toNat 0 = x
      have hs0 : 0 ≤ sd.getD k 0 := (of_decide_eq_true hc).1
      have hrt : ∀ y ∈ s.rc p q, y < r := by
        intro y hy
        obtain ⟨i, hi, e1, e2⟩ := h.rcm p q y hy
        rw [← e2, ← hr]
        exact hrise i k hi (by omega) (by rw [e1, hp])
      have hneed : ∀ c, needTo pr sd sq p q c (k + 1) = if r ≤ c ∧ needTo pr sd sq p q c k < x then x else needTo pr sd sq p q c k := by
        intro c
        show (if _ then _ else _) = _
        have e : (0 ≤ sd.getD k 0 ∧ pr.getD k 0 = p ∧ pr.getD (sd.getD k 0).toNat 0 = q) := ⟨hs0, hp, hq⟩
        rw [hr, hx]
        simp only [e, true_and, and_self]
      have hneed' : ∀ p' q' c, p' ≠ q' → ¬ (p' = p ∧ q' = q) → needTo pr sd sq p' q' c (k + 1) = needTo pr sd sq p' q' c k := by
        intro p' q' c hne hn
        show (if _ then _ else _) = _
        rw [if_neg]
        rintro ⟨e, _⟩
        obtain ⟨_, e1, e2⟩ := (pair_iff hne).2 e
        exact hn ⟨e1.symm.trans hp, e2.symm.trans hq⟩
      unfold LS.note
      split
      · rename_i hra
        have hxt : ∀ y ∈ s.sn p q, y < x := by
          intro y hy
          unfold LS.raises at hra
          rw [l4, Bool.or_eq_true, decide_eq_true_eq] at hra
          rcases hra with e | e
          · rw [List.isEmpty_iff] at e; rw [e] at hy; simp at hy
          · have := rise_last (h.sns p q) y hy
            omega
        exact {
          pres := l1
          tk := l2
          len := fun a b => by
            simp only [setII, l3, l4]
            split
            · simp [h.len]
            · exact h.len a b
          rcm := fun a b y hy => by
            simp only [setII, l3] at hy
            split at hy
            · rename_i e
              obtain ⟨rfl, rfl⟩ := e
              rw [List.mem_append, List.mem_singleton] at hy
              rcases hy with hy | rfl
              · obtain ⟨i, hi, e⟩ := h.rcm _ _ y hy; exact ⟨i, by omega, e⟩
              · exact ⟨k, by omega, hp, hr⟩
            · obtain ⟨i, hi, e⟩ := h.rcm _ _ y hy; exact ⟨i, by omega, e⟩
          snm := fun a b y hy => by
            simp only [setII, l4] at hy
            split at hy
            · rename_i e
              obtain ⟨rfl, rfl⟩ := e
              rw [List.mem_append, List.mem_singleton] at hy
              rcases hy with hy | rfl
              · obtain ⟨i, hi, e⟩ := h.snm _ _ y hy; exact ⟨i, by omega, e⟩
              · exact ⟨k, by omega, hs0, hx⟩
            · obtain ⟨i, hi, e⟩ := h.snm _ _ y hy; exact ⟨i, by omega, e⟩
          rcs := fun a b => by
            simp only [setII, l3]
            split
            · exact rise_snoc (h.rcs p q) hrt
            · exact h.rcs a b
          sns := fun a b => by
            simp only [setII, l4]
            split
            · exact rise_snoc (h.sns p q) hxt
            · exact h.sns a b
          need := fun a b c hab => by
            simp only [setII, l3, l4]
            by_cases e : a = p ∧ b = q
            · rw [if_pos e, if_pos e]
              obtain ⟨rfl, rfl⟩ := e
              rw [List.length_append, List.length_singleton, linkTo_snoc _ _ _ _ _ (h.len a b), h.need a b c hab, hneed]
            · rw [if_neg e, if_neg e, h.need a b c hab, hneed' a b c hab e]
          ne := fun a b hab => by
            simp only [setII, l3]
            split
            · simp
            · rename_i e
              refine h.ne a b ((h.pres a b).2 ?_)
              rcases pair_succ.1 ((l1 a b).1 hab) with h1 | h1
              · exact h1
              · exact absurd ⟨h1.2.1.symm.trans hp, h1.2.2.symm.trans hq⟩ e
          sz := l5 }
      · rename_i hra
        unfold LS.raises at hra
        rw [l4, Bool.or_eq_true, decide_eq_true_eq, List.isEmpty_iff] at hra
        have hne : s.sn p q ≠ [] := fun e => hra (.inl e)
        have hlast : x ≤ (s.sn p q).getD ((s.sn p q).length - 1) 0 := by
          by_cases e : (s.sn p q).getD ((s.sn p q).length - 1) 0 < x
          · exact absurd (.inr e) hra
          · omega
        have hpos : 0 < (s.sn p q).length := List.length_pos_iff.2 hne
        exact {
          pres := l1
          tk := l2
          len := fun a b => by rw [l3, l4]; exact h.len a b
          rcm := fun a b y hy => by rw [l3] at hy; obtain ⟨i, hi, e⟩ := h.rcm _ _ y hy; exact ⟨i, by omega, e⟩
          snm := fun a b y hy => by rw [l4] at hy; obtain ⟨i, hi, e⟩ := h.snm _ _ y hy; exact ⟨i, by omega, e⟩
          rcs := fun a b => by rw [l3]; exact h.rcs a b
          sns := fun a b => by rw [l4]; exact h.sns a b
          need := fun a b c hab => by
            rw [l3, l4]
            by_cases e : a = p ∧ b = q
            · obtain ⟨rfl, rfl⟩ := e
              rw [hneed, ← h.need a b c hab, if_neg]
              rintro ⟨e1, e2⟩
              have hle := h.len a b
              have := linkTo_ge (s.rc a b) (s.sn a b) c (s.rc a b).length ((s.sn a b).length - 1) (by omega) (fun i hi => by
                have := hrt _ (getD_mem _ i hi)
                omega)
              omega
            · rw [h.need a b c hab, hneed' a b c hab e]
          ne := fun a b hab => by
            rw [l3]
            by_cases e : a = p ∧ b = q
            · obtain ⟨rfl, rfl⟩ := e
              intro e2
              have := h.len a b
              rw [e2] at this
              simp at this
              omega
            · refine h.ne a b ((h.pres a b).2 ?_)
              rcases pair_succ.1 ((l1 a b).1 hab) with h1 | h1
              · exact h1
              · exact absurd ⟨h1.2.1.symm.trans hp, h1.2.2.symm.trans hq⟩ e
          sz := l5 }
end Go.Proofs.Qxb6603214a
