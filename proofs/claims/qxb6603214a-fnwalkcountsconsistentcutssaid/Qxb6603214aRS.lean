import Derived.Test.Qxb6603214aWalkQ
/-! The walk of the cuts meets each consistent cut just once. -/
namespace Go.Proofs.Qxb6603214a.WalkP
set_option linter.unusedVariables false

/-- The event k of place j: its index; does it cross; from which place; the seq of the send. -/
def Ctx.ix (c : Ctx) (j k : Nat) : Nat := (c.ls.getD (c.p j) 0 + (k : Int)).toNat
def Ctx.X (c : Ctx) (j k : Nat) : Bool := c.cross (c.p j) (c.ix j k)
def Ctx.F (c : Ctx) (j k : Nat) : Nat := (c.from (c.ix j k)).toNat
def Ctx.S (c : Ctx) (j k : Nat) : Int := c.sent (c.ix j k)

/-- A run without circles. -/
structure Sound (c : Ctx) : Prop where
  ok : c.Ok
  ev0 : ∀ j, j < c.g → 0 ≤ c.evs j
  ne : ∀ j k : Nat, j < c.g → (k : Int) < c.evs j → c.X j k = true → c.F j k ≠ j
  time : ∃ τ : Nat → Nat → Int, (∀ j k : Nat, j < c.g → (k : Int) + 1 < c.evs j → τ j k < τ j (k + 1)) ∧ (∀ j k : Nat, j < c.g → (k : Int) < c.evs j → c.X j k = true → τ (c.F j k) (c.S j k - 1).toNat < τ j k)

/-- A consistent cut. -/
structure Cut (c : Ctx) (h : List Int) : Prop where
  len : h.length = c.g
  lo : ∀ j, j < c.g → 0 ≤ h.getD j 0
  hi : ∀ j, j < c.g → h.getD j 0 ≤ c.evs j
  co : ∀ j k : Nat, j < c.g → (k : Int) < h.getD j 0 → c.X j k = true → c.S j k ≤ h.getD (c.F j k) 0

/-- Is the last event of place q received in the cut? Can it be taken away? -/
def Recv (c : Ctx) (h : List Int) (q : Nat) : Prop := ∃ j k : Nat, j < c.g ∧ (k : Int) < h.getD j 0 ∧ c.X j k = true ∧ c.F j k = q ∧ c.S j k = h.getD q 0
def Rem (c : Ctx) (h : List Int) (q : Nat) : Prop := 0 < h.getD q 0 ∧ ¬ Recv c h q
/-- Is the cut with one event more of place j a child of the cut? -/
def Child (c : Ctx) (h : List Int) (j : Nat) : Prop := Cut c (pushHeld h j) ∧ ∀ q, j < q → q < c.g → ¬ Rem c (pushHeld h j) q

theorem F_lt {c : Ctx} (hc : c.Ok) (j k : Nat) : c.F j k < c.g := by
  unfold Ctx.F Ctx.from
  have := hc.loc0 (c.pr.getD (c.sd.getD (c.ix j k) 0).toNat 0).toNat
  have := hc.loc1 (c.pr.getD (c.sd.getD (c.ix j k) 0).toNat 0).toNat
  omega
theorem push_at (h : List Int) (j q : Nat) (hj : j < h.length) : (pushHeld h j).getD q 0 = if j = q then h.getD j 0 + 1 else h.getD q 0 := getD_set _ _ _ _ hj
theorem push_ge (h : List Int) (j q : Nat) (hj : j < h.length) : h.getD q 0 ≤ (pushHeld h j).getD q 0 := by
  rw [push_at h j q hj]
  split
  · rename_i e; subst e; omega
  · omega
theorem at_ix {c : Ctx} {h : List Int} {j : Nat} (h0 : 0 ≤ h.getD j 0) : c.at h j = c.ix j (h.getD j 0).toNat := by
  unfold Ctx.at Ctx.ix
  rw [Int.toNat_of_nonneg h0]
theorem blocked_ix {c : Ctx} {h : List Int} {j : Nat} (h0 : 0 ≤ h.getD j 0) : c.blocked h j = (c.X j (h.getD j 0).toNat && decide (h.getD (c.F j (h.getD j 0).toNat) 0 < c.S j (h.getD j 0).toNat)) := by
  unfold Ctx.blocked
  rw [at_ix h0]
  rfl
theorem receives_iff {c : Ctx} (hc : c.Ok) {h : List Int} {j : Nat} (h0 : 0 ≤ h.getD j 0) (q : Nat) : c.receives h j = (q : Int) ↔ (c.X j (h.getD j 0).toNat = true ∧ c.F j (h.getD j 0).toNat = q ∧ c.S j (h.getD j 0).toNat = h.getD q 0) := by
  unfold Ctx.receives
  rw [at_ix h0]
  generalize (h.getD j 0).toNat = K
  have h1 : 0 ≤ c.from (c.ix j K) := hc.loc0 _
  have hF : c.from (c.ix j K) = (c.F j K : Int) := by unfold Ctx.F; omega
  rw [hF, Int.toNat_natCast]
  show (if c.X j K = true ∧ c.S j K = h.getD (c.F j K) 0 then (c.F j K : Int) else -1) = q ↔ _
  constructor
  · intro e
    split at e
    · rename_i hx
      have : c.F j K = q := by omega
      rw [this] at hx
      exact ⟨hx.1, this, hx.2⟩
    · omega
  · rintro ⟨e1, e2, e3⟩
    rw [if_pos ⟨e1, by rw [e2]; exact e3⟩, e2]

theorem push_cut {c : Ctx} (hs : Sound c) {h : List Int} (hC : Cut c h) {j : Nat} (hj : j < c.g) : Cut c (pushHeld h j) ↔ (h.getD j 0 ≠ c.evs j ∧ c.blocked h j = false) := by
  have hl : j < h.length := by rw [hC.len]; exact hj
  have h0 := hC.lo j hj
  rw [blocked_ix h0]
  constructor
  · intro hP
    have h1 := hP.hi j hj
    rw [push_at h j j hl, if_pos rfl] at h1
    refine ⟨by omega, ?_⟩
    cases hx : c.X j (h.getD j 0).toNat with
    | false => rfl
    | true =>
      have h2 := hP.co j (h.getD j 0).toNat hj (by rw [push_at h j j hl, if_pos rfl]; omega) hx
      rw [push_at h j _ hl, if_neg (fun e => hs.ne j _ hj (by omega) hx e.symm)] at h2
      rw [decide_eq_false (by omega)]
      rfl
  · rintro ⟨h1, h2⟩
    have h3 := hC.hi j hj
    refine ⟨by simp [pushHeld, hC.len], ?_, ?_, ?_⟩
    · intro q hq
      have := hC.lo q hq
      have := push_ge h j q hl
      omega
    · intro q hq
      rw [push_at h j q hl]
      split
      · rename_i e; subst e; omega
      · exact hC.hi q hq
    · intro j' k hj' hk hx
      refine Int.le_trans ?_ (push_ge h j _ hl)
      rw [push_at h j j' hl] at hk
      split at hk
      · rename_i e
        subst e
        by_cases hk2 : (k : Int) < h.getD j 0
        · exact hC.co j k hj hk2 hx
        · have e : k = (h.getD j 0).toNat := by omega
          subst e
          rw [hx] at h2
          have := of_decide_eq_false (by simpa using h2 : decide (h.getD (c.F j (h.getD j 0).toNat) 0 < c.S j (h.getD j 0).toNat) = false)
          omega
      · exact hC.co j' k hj' hk hx

theorem recv_push {c : Ctx} (hs : Sound c) {h : List Int} (hC : Cut c h) {j : Nat} (hj : j < c.g) {q : Nat} (hq : q ≠ j) : Recv c (pushHeld h j) q ↔ (Recv c h q ∨ c.receives h j = (q : Int)) := by
  have hl : j < h.length := by rw [hC.len]; exact hj
  have h0 := hC.lo j hj
  rw [receives_iff hs.ok h0]
  have eq : (pushHeld h j).getD q 0 = h.getD q 0 := by rw [push_at h j q hl, if_neg (fun e => hq e.symm)]
  unfold Recv
  rw [eq]
  constructor
  · rintro ⟨j', k, h1, h2, h3, h4, h5⟩
    rw [push_at h j j' hl] at h2
    split at h2
    · rename_i e
      subst e
      by_cases hk2 : (k : Int) < h.getD j 0
      · exact .inl ⟨j, k, hj, hk2, h3, h4, h5⟩
      · have e : k = (h.getD j 0).toNat := by omega
        subst e
        exact .inr ⟨h3, h4, h5⟩
    · exact .inl ⟨j', k, h1, h2, h3, h4, h5⟩
  · rintro (⟨j', k, h1, h2, h3, h4, h5⟩ | ⟨h3, h4, h5⟩)
    · exact ⟨j', k, h1, Int.lt_of_lt_of_le h2 (push_ge h j j' hl), h3, h4, h5⟩
    · exact ⟨j, (h.getD j 0).toNat, hj, by rw [push_at h j j hl, if_pos rfl]; omega, h3, h4, h5⟩
theorem recv_self {c : Ctx} (hs : Sound c) {h : List Int} (hC : Cut c h) {j : Nat} (hj : j < c.g) (hP : Cut c (pushHeld h j)) : ¬ Recv c (pushHeld h j) j := by
  have hl : j < h.length := by rw [hC.len]; exact hj
  rintro ⟨j', k, h1, h2, h3, h4, h5⟩
  have h6 := hP.hi j' h1
  have hne := hs.ne j' k h1 (by omega) h3
  rw [push_at h j j hl, if_pos rfl] at h5
  rw [push_at h j j' hl, if_neg (fun e => hne (by omega))] at h2
  have := hC.co j' k h1 h2 h3
  rw [h4] at this
  omega
theorem rem_self {c : Ctx} (hs : Sound c) {h : List Int} (hC : Cut c h) {j : Nat} (hj : j < c.g) (hP : Cut c (pushHeld h j)) : Rem c (pushHeld h j) j := by
  have hl : j < h.length := by rw [hC.len]; exact hj
  refine ⟨?_, recv_self hs hC hj hP⟩
  rw [push_at h j j hl, if_pos rfl]
  have := hC.lo j hj
  omega
theorem rem_push {c : Ctx} (hs : Sound c) {h : List Int} (hC : Cut c h) {j : Nat} (hj : j < c.g) {q : Nat} (hq : q ≠ j) : Rem c (pushHeld h j) q ↔ (Rem c h q ∧ c.receives h j ≠ (q : Int)) := by
  have hl : j < h.length := by rw [hC.len]; exact hj
  unfold Rem
  rw [recv_push hs hC hj hq, push_at h j q hl, if_neg (fun e => hq e.symm)]
  constructor
  · rintro ⟨a, b⟩; exact ⟨⟨a, fun e => b (.inl e)⟩, fun e => b (.inr e)⟩
  · rintro ⟨⟨a, b⟩, d⟩; exact ⟨a, fun e => e.elim b d⟩
theorem child_iff {c : Ctx} (hs : Sound c) {h : List Int} (hC : Cut c h) {j : Nat} (hj : j < c.g) : Child c h j ↔ (h.getD j 0 ≠ c.evs j ∧ c.blocked h j = false ∧ ∀ q, j < q → q < c.g → Rem c h q → c.receives h j = (q : Int)) := by
  unfold Child
  rw [push_cut hs hC hj]
  constructor
  · rintro ⟨⟨a, b⟩, d⟩
    refine ⟨a, b, fun q h1 h2 h3 => ?_⟩
    have h4 := d q h1 h2
    rw [rem_push hs hC hj (by omega)] at h4
    by_cases e : c.receives h j = (q : Int)
    · exact e
    · exact absurd ⟨h3, e⟩ h4
  · rintro ⟨a, b, d⟩
    refine ⟨⟨a, b⟩, fun q h1 h2 h3 => ?_⟩
    rw [rem_push hs hC hj (by omega)] at h3
    exact h3.2 (d q h1 h2 h3.1)

/-! ### A node of the walk -/
structure Node (c : Ctx) (e : PE) (h r : List Int) : Prop where
  cut : Cut c h
  rlen : r.length = c.g
  r0 : ∀ q, q < c.g → 0 ≤ r.getD q 0
  rz : ∀ q, q < c.g → (r.getD q 0 = 0 ↔ ¬ Recv c h q)
  top : ∀ q : Nat, q < c.g → e.proc < q → ¬ Rem c h q
  pr : 0 ≤ e.proc → Rem c h e.proc.toNat
  mid : ∀ q : Nat, e.below < q → (q : Int) < e.proc → ¬ Rem c h q
  be : 0 ≤ e.below → e.below < e.proc ∧ Rem c h e.below.toNat

theorem adds_child {c : Ctx} (hs : Sound c) {e : PE} {h r : List Int} (hN : Node c e h r) (he : OkE c.g e) {j : Nat} (hj : j < c.g) (hb : e.below ≤ j) : c.adds h e j = true ↔ Child c h j := by
  rw [child_iff hs hN.cut hj]
  have h1 : c.adds h e j = true ↔ (h.getD j 0 ≠ c.evs j ∧ c.blocked h j = false ∧ ((j : Int) < e.proc → e.proc = c.receives h j)) := by
    unfold Ctx.adds
    generalize h.getD j 0 = v
    generalize c.evs j = ev
    by_cases a : v = ev
    · simp [a]
    · cases b : c.blocked h j with
      | true => simp
      | false =>
        by_cases d : (j : Int) < e.proc
        · simp [a, d]
        · simp [a, d]
  rw [h1]
  constructor
  · rintro ⟨a, b, d⟩
    refine ⟨a, b, fun q h1 h2 h3 => ?_⟩
    have h4 : ¬ e.proc < q := fun hlt => hN.top q h2 hlt h3
    have h5 : ¬ (q : Int) < e.proc := fun hlt => hN.mid q (by omega) hlt h3
    have := d (by omega)
    omega
  · rintro ⟨a, b, d⟩
    refine ⟨a, b, fun hlt => ?_⟩
    have hp1 := he.p1
    have := d e.proc.toNat (by omega) (by omega) (hN.pr (by omega))
    omega
theorem low_child {c : Ctx} (hs : Sound c) {e : PE} {h r : List Int} (hN : Node c e h r) (he : OkE c.g e) {j : Nat} (hb : (j : Int) < e.below) : ¬ Child c h j := by
  have hb1 := he.b1
  have hp1 := he.p1
  have hj : j < c.g := by omega
  rw [child_iff hs hN.cut hj]
  rintro ⟨_, _, d⟩
  obtain ⟨h1, h2⟩ := hN.be (by omega)
  have e1 := d e.below.toNat (by omega) (by omega) h2
  have e2 := d e.proc.toNat (by omega) (by omega) (hN.pr (by omega))
  omega

theorem precv_at {r : List Int} {j : Nat} {rc : Int} {g : Nat} (hl : r.length = g) (hj : j < g) (h1 : -1 ≤ rc) (h2 : rc < g) (h3 : rc ≠ j) (q : Nat) : (pushRecvs r j rc).getD q 0 = if q = j then 0 else if (q : Int) = rc then r.getD q 0 + 1 else r.getD q 0 := by
  unfold pushRecvs
  split
  · rw [getD_set _ _ _ _ (by rw [List.length_set]; omega), getD_set _ _ _ _ (by omega), getD_set _ _ _ _ (by omega)]
    by_cases e1 : rc.toNat = q
    · rw [if_pos e1, if_neg (by omega), if_neg (by omega), if_pos (by omega), e1]
    · rw [if_neg e1]
      by_cases e2 : j = q
      · rw [if_pos e2, if_pos e2.symm]
      · rw [if_neg e2, if_neg (fun e => e2 e.symm), if_neg (by omega)]
  · rw [getD_set _ _ _ _ (by omega)]
    by_cases e2 : j = q
    · rw [if_pos e2, if_pos e2.symm]
    · rw [if_neg e2, if_neg (fun e => e2 e.symm), if_neg (by omega)]
theorem ext_getD {l l' : List Int} (hl : l.length = l'.length) (h : ∀ q, q < l.length → l.getD q 0 = l'.getD q 0) : l = l' := by
  apply List.ext_getElem hl
  intro i h1 h2
  have := h i h1
  rw [List.getD_eq_getElem?_getD, List.getD_eq_getElem?_getD, List.getElem?_eq_getElem h1, List.getElem?_eq_getElem h2] at this
  exact this
theorem below_spec (held recvs : List Int) (k : Nat) : (∀ q : Nat, (below held recvs k).1 < q → q < k → ¬ (0 < held.getD q 0 ∧ recvs.getD q 0 = 0)) ∧ (0 ≤ (below held recvs k).1 → 0 < held.getD (below held recvs k).1.toNat 0 ∧ recvs.getD (below held recvs k).1.toNat 0 = 0) := by
  induction k with
  | zero => exact ⟨fun q _ h => absurd h (Nat.not_lt_zero _), fun h => absurd h (by simp [below])⟩
  | succ k ih =>
    unfold below
    split
    · rename_i hk
      refine ⟨fun q h1 h2 => ?_, fun _ => ?_⟩
      · simp only at h1; omega
      · simpa using hk
    · rename_i hk
      refine ⟨fun q h1 h2 => ?_, ih.2⟩
      by_cases e : q = k
      · subst e; exact hk
      · exact ih.1 q h1 (by omega)

theorem rc_ne {c : Ctx} (hs : Sound c) {h : List Int} (hC : Cut c h) {j : Nat} (hj : j < c.g) (hP : Cut c (pushHeld h j)) : c.receives h j ≠ j := by
  have hl : j < h.length := by rw [hC.len]; exact hj
  have h0 := hC.lo j hj
  intro e
  rw [receives_iff hs.ok h0] at e
  have h1 := hP.hi j hj
  rw [push_at h j j hl, if_pos rfl] at h1
  exact hs.ne j _ hj (by omega) e.1 e.2.1

theorem child_node {c : Ctx} (hs : Sound c) {e : PE} {h r : List Int} (hN : Node c e h r) {j : Nat} (hj : j < c.g) (hch : Child c h j) : Node c (c.child h r j) (pushHeld h j) (pushRecvs r j (c.receives h j)) := by
  have hrb := receives_bd hs.ok h j
  have hne := rc_ne hs hN.cut hj hch.1
  have hat := precv_at (q := 0) hN.rlen hj hrb.1 hrb.2 hne
  have hat : ∀ q, _ := fun q => precv_at hN.rlen hj hrb.1 hrb.2 hne q
  have r0 : ∀ q, q < c.g → 0 ≤ (pushRecvs r j (c.receives h j)).getD q 0 := by
    intro q hq
    rw [hat q]
    have := hN.r0 q hq
    split
    · omega
    · split <;> omega
  have rz : ∀ q, q < c.g → ((pushRecvs r j (c.receives h j)).getD q 0 = 0 ↔ ¬ Recv c (pushHeld h j) q) := by
    intro q hq
    rw [hat q]
    have h1 := hN.r0 q hq
    by_cases e1 : q = j
    · subst e1
      rw [if_pos rfl]
      exact ⟨fun _ => recv_self hs hN.cut hj hch.1, fun _ => rfl⟩
    · rw [if_neg e1, recv_push hs hN.cut hj e1]
      by_cases e2 : (q : Int) = c.receives h j
      · rw [if_pos e2]
        exact ⟨fun e => absurd e (by omega), fun e => absurd (.inr e2.symm) e⟩
      · rw [if_neg e2, hN.rz q hq]
        exact ⟨fun a b => b.elim a (fun x => e2 x.symm), fun a b => a (.inl b)⟩
  have hbl := below_lt (pushHeld h j) (pushRecvs r j (c.receives h j)) j
  have hbs := below_spec (pushHeld h j) (pushRecvs r j (c.receives h j)) j
  have hp : (c.child h r j).proc = (j : Int) := rfl
  have hb : (c.child h r j).below = (below (pushHeld h j) (pushRecvs r j (c.receives h j)) j).1 := rfl
  refine ⟨hch.1, ?_, r0, rz, ?_, ?_, ?_, ?_⟩
  · unfold pushRecvs; split <;> simp [hN.rlen]
  · intro q hq hlt; rw [hp] at hlt; exact hch.2 q (by omega) hq
  · intro _; rw [hp, Int.toNat_natCast]; exact rem_self hs hN.cut hj hch.1
  · intro q h1 h2
    rw [hp] at h2
    rw [hb] at h1
    have := hbs.1 q h1 (by omega)
    rw [rz q (by omega)] at this
    exact this
  · intro h1
    rw [hb] at h1 ⊢
    refine ⟨hbl.2.1, ?_⟩
    have := hbs.2 h1
    rw [rz _ (by omega)] at this
    exact this

theorem pop_held {c : Ctx} {h r : List Int} {j : Nat} (hl : h.length = c.g) (hj : j < c.g) : popHeld (pushHeld h j) (c.child h r j) = h := by
  have hp : (c.child h r j).proc = (j : Int) := rfl
  unfold popHeld
  rw [hp, if_pos (by omega), Int.toNat_natCast]
  refine ext_getD (by simp [pushHeld]) fun q hq => ?_
  rw [getD_set _ _ _ _ (by simp [pushHeld]; omega), push_at _ _ _ (by omega), push_at _ _ _ (by omega), if_pos rfl]
  split
  · rename_i e; subst e; omega
  · rfl
theorem pop_recvs {c : Ctx} (hs : Sound c) {h r : List Int} {j : Nat} (hC : Cut c h) (hl : r.length = c.g) (hj : j < c.g) (hP : Cut c (pushHeld h j)) : popRecvs (pushRecvs r j (c.receives h j)) (c.child h r j) = r := by
  have hrb := receives_bd hs.ok h j
  have hne := rc_ne hs hC hj hP
  have hat : ∀ q, _ := fun q => precv_at hl hj hrb.1 hrb.2 hne q
  have hl2 : (pushRecvs r j (c.receives h j)).length = c.g := by unfold pushRecvs; split <;> simp [hl]
  have hp : (c.child h r j).proc = (j : Int) := rfl
  have hrc : (c.child h r j).receives = c.receives h j := rfl
  have hrr : (c.child h r j).receivers = r.getD j 0 := rfl
  unfold popRecvs
  rw [hp, hrc, hrr, if_pos (by omega), Int.toNat_natCast]
  split
  · rename_i h0
    refine ext_getD (by simp [hl2, hl]) fun q hq => ?_
    rw [getD_set _ _ _ _ (by rw [List.length_set]; omega), getD_set _ _ _ _ (by omega), getD_set _ _ _ _ (by omega), hat q, hat (c.receives h j).toNat]
    by_cases e1 : (c.receives h j).toNat = q
    · rw [if_pos e1, if_neg (by omega), if_neg (by omega), if_pos (by omega), e1]
      omega
    · rw [if_neg e1]
      by_cases e2 : j = q
      · rw [if_pos e2, e2]
      · rw [if_neg e2, if_neg (fun e => e2 e.symm), if_neg (by omega)]
  · refine ext_getD (by simp [hl2, hl]) fun q hq => ?_
    rw [getD_set _ _ _ _ (by omega), hat q]
    by_cases e2 : j = q
    · rw [if_pos e2, e2]
    · rw [if_neg e2, if_neg (fun e => e2 e.symm), if_neg (by omega)]

/-! ### The tree of the cuts -/
def dks {α : Type} (φ : Nat → List α) : Nat → Nat → List α
  | _, 0 => []
  | j, n + 1 => φ j ++ dks φ (j + 1) n
theorem dks_mem {α : Type} (φ : Nat → List α) (j n : Nat) (x : α) : x ∈ dks φ j n ↔ ∃ i, j ≤ i ∧ i < j + n ∧ x ∈ φ i := by
  induction n generalizing j with
  | zero => exact ⟨fun h => absurd h (by simp [dks]), fun ⟨i, h1, h2, _⟩ => by omega⟩
  | succ n ih =>
    unfold dks
    rw [List.mem_append, ih]
    constructor
    · rintro (h | ⟨i, h1, h2, h3⟩)
      · exact ⟨j, Nat.le_refl _, by omega, h⟩
      · exact ⟨i, by omega, by omega, h3⟩
    · rintro ⟨i, h1, h2, h3⟩
      by_cases e : i = j
      · subst e; exact .inl h3
      · exact .inr ⟨i, by omega, by omega, h3⟩
theorem dks_congr {α : Type} (φ ψ : Nat → List α) (j n : Nat) (h : ∀ i, j ≤ i → i < j + n → φ i = ψ i) : dks φ j n = dks ψ j n := by
  induction n generalizing j with
  | zero => rfl
  | succ n ih =>
    unfold dks
    rw [h j (Nat.le_refl _) (by omega), ih (j + 1) (fun i h1 h2 => h i (by omega) (by omega))]
theorem dks_nil {α : Type} (φ : Nat → List α) (j n : Nat) (h : ∀ i, j ≤ i → i < j + n → φ i = []) : dks φ j n = [] := by
  induction n generalizing j with
  | zero => rfl
  | succ n ih =>
    unfold dks
    rw [h j (Nat.le_refl _) (by omega), ih (j + 1) (fun i h1 h2 => h i (by omega) (by omega))]
    rfl
theorem dks_skip {α : Type} (φ : Nat → List α) (a n j : Nat) (h : ∀ i, j ≤ i → i < j + a → φ i = []) : dks φ j (a + n) = dks φ (j + a) n := by
  induction a generalizing j with
  | zero => simp
  | succ a ih =>
    rw [show a + 1 + n = (a + n) + 1 by omega]
    show φ j ++ dks φ (j + 1) (a + n) = _
    rw [h j (Nat.le_refl _) (by omega), ih (j + 1) (fun i h1 h2 => h i (by omega) (by omega)), show j + 1 + a = j + (a + 1) by omega]
    rfl
theorem dks_nodup {α : Type} (φ : Nat → List α) (j n : Nat) (h1 : ∀ i, j ≤ i → i < j + n → (φ i).Nodup) (h2 : ∀ i i' x, j ≤ i → i < i' → i' < j + n → x ∈ φ i → x ∈ φ i' → False) : (dks φ j n).Nodup := by
  induction n generalizing j with
  | zero => exact List.nodup_nil
  | succ n ih =>
    unfold dks
    rw [List.nodup_append]
    refine ⟨h1 j (Nat.le_refl _) (by omega), ih (j + 1) (fun i a b => h1 i (by omega) (by omega)) (fun i i' x a b d => h2 i i' x (by omega) b (by omega)), ?_⟩
    intro a ha b hb e
    subst e
    rw [dks_mem] at hb
    obtain ⟨i, e1, e2, e3⟩ := hb
    exact h2 j i a (Nat.le_refl _) (by omega) (by omega) ha e3

def rsum (φ : Nat → Nat) : Nat → Nat
  | 0 => 0
  | n + 1 => rsum φ n + φ n
theorem rsum_congr (φ ψ : Nat → Nat) (n : Nat) (h : ∀ i, i < n → φ i = ψ i) : rsum φ n = rsum ψ n := by
  induction n with
  | zero => rfl
  | succ n ih => unfold rsum; rw [ih (fun i hi => h i (by omega)), h n (by omega)]
theorem rsum_one (φ ψ : Nat → Nat) (n j : Nat) (hj : j < n) (h1 : φ j = ψ j + 1) (h2 : ∀ i, i < n → i ≠ j → φ i = ψ i) : rsum φ n = rsum ψ n + 1 := by
  induction n with
  | zero => omega
  | succ n ih =>
    unfold rsum
    by_cases e : j = n
    · subst e
      rw [rsum_congr φ ψ j (fun i hi => h2 i (by omega) (by omega)), h1]
      omega
    · rw [ih (by omega) (fun i hi => h2 i (by omega)), h2 n (by omega) (fun e2 => e e2.symm)]
      omega
theorem rsum_pos (φ : Nat → Nat) (n : Nat) (h : 0 < rsum φ n) : ∃ j, j < n ∧ 0 < φ j := by
  induction n with
  | zero => exact absurd h (by simp [rsum])
  | succ n ih =>
    by_cases e : 0 < φ n
    · exact ⟨n, by omega, e⟩
    · obtain ⟨j, h1, h2⟩ := ih (by unfold rsum at h; omega)
      exact ⟨j, by omega, h2⟩

/-- How many events the cut does not hold; how many it holds. -/
def rm (c : Ctx) (h : List Int) : Nat := rsum (fun j => (c.evs j - h.getD j 0).toNat) c.g
def sz (c : Ctx) (h : List Int) : Nat := rsum (fun j => (h.getD j 0).toNat) c.g
theorem rm_push {c : Ctx} {h : List Int} {j : Nat} (hC : Cut c h) (hj : j < c.g) (hP : Cut c (pushHeld h j)) : rm c h = rm c (pushHeld h j) + 1 := by
  have hl : j < h.length := by rw [hC.len]; exact hj
  have h1 := hP.hi j hj
  rw [push_at h j j hl, if_pos rfl] at h1
  refine rsum_one _ _ _ j hj ?_ ?_
  · rw [push_at h j j hl, if_pos rfl]; omega
  · intro i hi hne; rw [push_at h j i hl, if_neg (fun e => hne e.symm)]
theorem sz_push {c : Ctx} {h : List Int} {j : Nat} (hC : Cut c h) (hj : j < c.g) : sz c (pushHeld h j) = sz c h + 1 := by
  have hl : j < h.length := by rw [hC.len]; exact hj
  have h1 := hC.lo j hj
  refine rsum_one _ _ _ j hj ?_ ?_
  · rw [push_at h j j hl, if_pos rfl]; omega
  · intro i hi hne; rw [push_at h j i hl, if_neg (fun e => hne e.symm)]

/-- A test that tells the children. -/
def Tells (c : Ctx) (ch : List Int → Nat → Bool) : Prop := ∀ h j, ch h j = true ↔ Child c h j
theorem tells_some (c : Ctx) : ∃ ch, Tells c ch :=
  ⟨fun h j => @decide (Child c h j) (Classical.propDecidable _), fun h j => @decide_eq_true_iff (Child c h j) (Classical.propDecidable _)⟩
/-- The cuts that the walk meets from a cut on. -/
def D (c : Ctx) (ch : List Int → Nat → Bool) : Nat → List Int → List (List Int)
  | 0, h => [h]
  | f + 1, h => h :: dks (fun j => bif ch h j then D c ch f (pushHeld h j) else []) 0 c.g
def DD (c : Ctx) (ch : List Int → Nat → Bool) (h : List Int) : List (List Int) := D c ch (rm c h) h
def kid (c : Ctx) (ch : List Int → Nat → Bool) (h : List Int) (j : Nat) : List (List Int) := bif ch h j then DD c ch (pushHeld h j) else []
theorem tells_no {c : Ctx} {ch : List Int → Nat → Bool} (ht : Tells c ch) {h : List Int} {j : Nat} (hc : ¬ Child c h j) : ch h j = false := by
  cases e : ch h j with
  | false => rfl
  | true => exact absurd ((ht h j).1 e) hc
theorem kid_yes {c : Ctx} {ch : List Int → Nat → Bool} (ht : Tells c ch) {h : List Int} {j : Nat} (hc : Child c h j) : kid c ch h j = DD c ch (pushHeld h j) := by unfold kid; rw [(ht h j).2 hc]; rfl
theorem kid_no {c : Ctx} {ch : List Int → Nat → Bool} (ht : Tells c ch) {h : List Int} {j : Nat} (hc : ¬ Child c h j) : kid c ch h j = [] := by unfold kid; rw [tells_no ht hc]; rfl
theorem DD_eq {c : Ctx} {ch : List Int → Nat → Bool} (ht : Tells c ch) {h : List Int} (hC : Cut c h) : DD c ch h = h :: dks (kid c ch h) 0 c.g := by
  unfold DD
  cases hr : rm c h with
  | zero =>
    rw [dks_nil]
    · rfl
    · intro i _ hi
      refine kid_no ht fun hc => ?_
      have := rm_push hC (by omega) hc.1
      omega
  | succ f =>
    show h :: dks _ 0 c.g = _
    congr 1
    refine dks_congr _ _ _ _ fun i _ hi => ?_
    by_cases hc : Child c h i
    · have := rm_push hC (by omega) hc.1
      rw [(ht h i).2 hc, kid_yes ht hc]
      unfold DD
      rw [show rm c (pushHeld h i) = f by omega]
      rfl
    · rw [tells_no ht hc, kid_no ht hc]
      rfl

/-! ### The count, as the walk goes -/
def Good (c : Ctx) : List PE → List Int → List Int → Prop
  | [], _, _ => True
  | e :: rest, h, r => Node c e h r ∧ Good c rest (popHeld h e) (popRecvs r e)
def pot (c : Ctx) (ch : List Int → Nat → Bool) : List PE → List Int → Nat
  | [], _ => 0
  | e :: rest, h => (dks (kid c ch h) e.next.toNat (c.g - e.next.toNat)).length + pot c ch rest (popHeld h e)

theorem Node.bump {c : Ctx} {e : PE} {h r : List Int} (hN : Node c e h r) : Node c e.bump h r := ⟨hN.cut, hN.rlen, hN.r0, hN.rz, hN.top, hN.pr, hN.mid, hN.be⟩

theorem pot_nxt {c : Ctx} {ch : List Int → Nat → Bool} (ht : Tells c ch) (hs : Sound c) {s : WS} (hI : Inv c s) (hG : Good c s.path s.held s.recvs) :
    Good c (nxt c s).path (nxt c s).held (nxt c s).recvs ∧ (nxt c s).count + pot c ch (nxt c s).path (nxt c s).held = s.count + pot c ch s.path s.held := by
  obtain ⟨path, held, recvs, count, steps⟩ := s
  simp only at hG
  cases path with
  | nil => exact ⟨hG, rfl⟩
  | cons e rest =>
    have he := hI.okp e (by simp)
    obtain ⟨hN, hG2⟩ := hG
    unfold WalkP.nxt
    simp only
    by_cases hn : e.next = c.g
    · rw [if_pos hn]
      refine ⟨hG2, ?_⟩
      show count + pot c ch rest (popHeld held e) = count + ((dks (kid c ch held) e.next.toNat (c.g - e.next.toNat)).length + pot c ch rest (popHeld held e))
      rw [show c.g - e.next.toNat = 0 by omega]
      simp [dks]
    · rw [if_neg hn]
      have hj0 := he.n0
      have hj1 := he.n1
      have hbn := he.bn
      have hjg : e.next.toNat < c.g := by omega
      have hd : dks (kid c ch held) e.next.toNat (c.g - e.next.toNat) = kid c ch held e.next.toNat ++ dks (kid c ch held) (e.next.toNat + 1) (c.g - (e.next.toNat + 1)) := by
        rw [show c.g - e.next.toNat = (c.g - (e.next.toNat + 1)) + 1 by omega]
        rfl
      have hb : e.bump.next.toNat = e.next.toNat + 1 := by show (e.next + 1).toNat = _; omega
      have hac := adds_child hs hN he hjg (by omega)
      split
      · rename_i ha
        have hch := hac.1 ha
        have hN2 := child_node hs hN hjg hch
        have hok2 := child_ok hs.ok held recvs e.next.toNat hjg
        have e1 := pop_held (r := recvs) hN.cut.len hjg
        have e2 := pop_recvs hs hN.cut hN.rlen hjg hch.1
        refine ⟨⟨hN2, ?_⟩, ?_⟩
        · rw [e1, e2]; exact ⟨hN.bump, hG2⟩
        · show count + 1 + ((dks (kid c ch (pushHeld held e.next.toNat)) (c.child held recvs e.next.toNat).next.toNat (c.g - (c.child held recvs e.next.toNat).next.toNat)).length + ((dks (kid c ch (popHeld (pushHeld held e.next.toNat) (c.child held recvs e.next.toNat))) e.bump.next.toNat (c.g - e.bump.next.toNat)).length + pot c ch rest (popHeld (popHeld (pushHeld held e.next.toNat) (c.child held recvs e.next.toNat)) e.bump))) = count + ((dks (kid c ch held) e.next.toNat (c.g - e.next.toNat)).length + pot c ch rest (popHeld held e))
          rw [e1, hd, hb, kid_yes ht hch, DD_eq ht hch.1]
          have hnx : (c.child held recvs e.next.toNat).next = max (c.child held recvs e.next.toNat).below 0 := rfl
          have hsk := dks_skip (kid c ch (pushHeld held e.next.toNat)) (c.child held recvs e.next.toNat).next.toNat (c.g - (c.child held recvs e.next.toNat).next.toNat) 0 (fun i _ hi => kid_no ht (low_child hs hN2 hok2 (by omega)))
          have hn1 := hok2.n1
          rw [Nat.zero_add, show (c.child held recvs e.next.toNat).next.toNat + (c.g - (c.child held recvs e.next.toNat).next.toNat) = c.g by omega] at hsk
          rw [hsk]
          have hpe : popHeld held e.bump = popHeld held e := rfl
          rw [hpe]
          simp only [List.length_append, List.length_cons]
          omega
      · rename_i ha
        have hch : ¬ Child c held e.next.toNat := fun h => ha (hac.2 h)
        refine ⟨⟨hN.bump, hG2⟩, ?_⟩
        show count + ((dks (kid c ch held) e.bump.next.toNat (c.g - e.bump.next.toNat)).length + pot c ch rest (popHeld held e.bump)) = count + ((dks (kid c ch held) e.next.toNat (c.g - e.next.toNat)).length + pot c ch rest (popHeld held e))
        rw [hd, hb, kid_no ht hch]
        rfl

def zeros (c : Ctx) : List Int := List.replicate c.g 0
theorem zeros_at (c : Ctx) (q : Nat) : (zeros c).getD q 0 = 0 := by unfold zeros; rw [Lamp.getD_replicate]
theorem cut_zeros {c : Ctx} (hs : Sound c) : Cut c (zeros c) where
  len := by simp [zeros]
  lo j hj := by rw [zeros_at]; exact Int.le_refl _
  hi j hj := by rw [zeros_at]; exact hs.ev0 j hj
  co j k hj hk hx := by rw [zeros_at] at hk; omega
theorem no_recv_zeros (c : Ctx) (q : Nat) : ¬ Recv c (zeros c) q := by
  rintro ⟨j, k, _, h, _⟩
  rw [zeros_at] at h
  omega
theorem no_rem_zeros (c : Ctx) (q : Nat) : ¬ Rem c (zeros c) q := by
  rintro ⟨h, _⟩
  rw [zeros_at] at h
  omega
theorem node_root {c : Ctx} (hs : Sound c) : Node c root (zeros c) (zeros c) where
  cut := cut_zeros hs
  rlen := by simp [zeros]
  r0 q hq := by rw [zeros_at]; exact Int.le_refl _
  rz q hq := ⟨fun _ => no_recv_zeros c q, fun _ => zeros_at c q⟩
  top q _ _ := no_rem_zeros c q
  pr h := absurd h (by simp [root])
  mid q _ _ := no_rem_zeros c q
  be h := absurd h (by simp [root])

theorem cpot_st {c : Ctx} {ch : List Int → Nat → Bool} (ht : Tells c ch) (hs : Sound c) (k : Nat) : Good c (st c k).path (st c k).held (st c k).recvs ∧ (st c k).count + pot c ch (st c k).path (st c k).held = (DD c ch (zeros c)).length := by
  induction k with
  | zero =>
    refine ⟨⟨node_root hs, trivial⟩, ?_⟩
    show 1 + ((dks (kid c ch (zeros c)) root.next.toNat (c.g - root.next.toNat)).length + 0) = _
    rw [DD_eq ht (cut_zeros hs)]
    have : root.next.toNat = 0 := rfl
    rw [this, Nat.sub_zero, List.length_cons]
    omega
  | succ k ih =>
    have h := pot_nxt ht hs (inv_st hs.ok k) ih.1
    exact ⟨h.1, h.2.trans ih.2⟩
end Go.Proofs.Qxb6603214a.WalkP
