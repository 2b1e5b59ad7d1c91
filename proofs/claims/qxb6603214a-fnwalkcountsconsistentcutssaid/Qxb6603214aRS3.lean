import Derived.Test.Qxb6603214aCC
import Derived.Test.Qxb6603214aWKI
/-! A sound run with a closed group: the walk's context is sound; the enumeration counts the consistent cuts. -/
namespace Go.Proofs.Qxb6603214a
open Go.RowKit WalkP
set_option linter.unusedVariables false

theorem loc_at {np g : Nat} {grp : List Int} (h : Grp np g grp) (i : Nat) (hi : i < g) : (locN grp np g).getD (grp.getD i 0).toNat 0 = i := by
  have : ∀ j, j ≤ g → i < j → (locN grp np j).getD (grp.getD i 0).toNat 0 = i := by
    intro j
    induction j with
    | zero => intro _ h; omega
    | succ j ih =>
      intro hj hij
      have hjr := h.inr j (by omega)
      have hir := h.inr i hi
      unfold locN
      rw [WalkP.getD_set _ _ _ _ (by rw [locN_len]; have := hjr.1; have := hjr.2; omega)]
      by_cases e : i = j
      · subst e; rw [if_pos rfl]
      · rw [if_neg (by have := h.ne i j (by omega) (by omega); have := hir.1; have := hjr.1; omega)]
        exact ih (by omega) (by omega)
  exact this g (Nat.le_refl _) hi

structure Run3 (np n g : Nat) (grp ls pr sd sq : List Int) : Prop where
  sh : Shape np n ls pr sd
  sq : Seqs np ls sq
  tm : Times np n ls sd
  gr : Grp np g grp
  cl : ClosedG g grp ls pr sd (zl grp np g)
  pos : 0 < g

theorem evs_at {np g : Nat} {grp ls pr sd sq : List Int} (hg : Grp np g grp) (j : Nat) (hj : j < g) : (ctxOf np g grp ls pr sd sq).evs j = ls.getD ((grp.getD j 0).toNat + 1) 0 - ls.getD (grp.getD j 0).toNat 0 := by
  have hr := hg.inr j hj
  show (evTo ls np np).getD (grp.getD j 0).toNat 0 = _
  rw [evTo_at ls np _ (by have := hr.1; have := hr.2; omega)]
theorem m_at {np g : Nat} {grp ls pr sd sq : List Int} (hg : Grp np g grp) (j : Nat) (hj : j < g) : ((ctxOf np g grp ls pr sd sq).evs j).toNat = mOf grp ls j := by
  rw [evs_at hg j hj]
  rfl

theorem cross_iff {np n g : Nat} {grp ls pr sd sq : List Int} (R : Run3 np n g grp ls pr sd sq) {j k : Nat} (hj : j < g) (hk : (k : Int) < (ctxOf np g grp ls pr sd sq).evs j) :
    ∃ i : Nat, (i : Int) = ls.getD (grp.getD j 0).toNat 0 + k ∧ i < n ∧ (ctxOf np g grp ls pr sd sq).ix j k = i ∧ ((ctxOf np g grp ls pr sd sq).X j k = true ↔ CrossI grp ls pr sd j i) := by
  have hr := R.gr.inr j hj
  rw [evs_at R.gr j hj] at hk
  have h0 := R.sh.lanes.lo (grp.getD j 0).toNat (by have := hr.1; have := hr.2; omega)
  have h1 := R.sh.lanes.hi ((grp.getD j 0).toNat + 1) (by have := hr.1; have := hr.2; omega)
  refine ⟨(ls.getD (grp.getD j 0).toNat 0 + k).toNat, by omega, by omega, rfl, ?_⟩
  show (decide _ = true) ↔ _
  rw [decide_eq_true_eq]
  unfold CrossI
  have hp : (((ctxOf np g grp ls pr sd sq).p j : Nat) : Int) = grp.getD j 0 := by show (((grp.getD j 0).toNat : Nat) : Int) = _; have := hr.1; omega
  have hx : (ctxOf np g grp ls pr sd sq).ix j k = (ls.getD (grp.getD j 0).toNat 0 + k).toNat := rfl
  rw [hp, hx]
  constructor
  · rintro ⟨a, b⟩; exact ⟨by omega, by omega, a, b⟩
  · rintro ⟨_, _, a, b⟩; exact ⟨a, b⟩

theorem cross_facts {np n g : Nat} {grp ls pr sd sq : List Int} (R : Run3 np n g grp ls pr sd sq) {j i : Nat} (hj : j < g) (hi : i < n) (hc : CrossI grp ls pr sd j i) :
    ∃ s q : Nat, sd.getD i 0 = s ∧ s < n ∧ q < g ∧ q ≠ j ∧ pr.getD s 0 = grp.getD q 0 ∧ (zl grp np g).getD (pr.getD s 0).toNat 0 = q ∧ (locN grp np g).getD (pr.getD s 0).toNat 0 = q ∧ sq.getD s 0 = s - ls.getD (pr.getD s 0).toNat 0 + 1 ∧ ls.getD (pr.getD s 0).toNat 0 ≤ s := by
  obtain ⟨c1, c2, c3, c4⟩ := hc
  obtain ⟨s, hs⟩ : ∃ s : Nat, sd.getD i 0 = s := ⟨(sd.getD i 0).toNat, by omega⟩
  have hsn : s < n := by have := R.sh.senders.lt i hi; omega
  have hcl := R.cl j i hj c1 c2 c3 c4
  rw [hs, Int.toNat_natCast] at hcl c4
  have hpr := R.sh.inR s hsn
  obtain ⟨q, hq, he⟩ := zl_of R.gr (pr.getD s 0).toNat (by have := hpr.1; have := hpr.2; omega) hcl
  have he2 : pr.getD s 0 = grp.getD q 0 := by have := hpr.1; omega
  obtain ⟨p, h1, h2, h3⟩ := R.sh.lanes.find s hsn
  have hown := R.sh.own p s h1 h2 h3
  refine ⟨s, q, hs, hsn, hq, ?_, he2, ?_, ?_, ?_, ?_⟩
  · intro e; subst e; exact c4 he2
  · rw [he2]; exact zl_at R.gr q hq
  · rw [he2]; exact loc_at R.gr q hq
  · rw [hown, Int.toNat_natCast]; exact R.sq p s h1 h2 h3
  · rw [hown, Int.toNat_natCast]; exact h2

theorem FS_at {np g : Nat} {grp ls pr sd sq : List Int} {j k i s q : Nat} (hx : (ctxOf np g grp ls pr sd sq).ix j k = i) (hs : sd.getD i 0 = s) (hl : (locN grp np g).getD (pr.getD s 0).toNat 0 = q) :
    (ctxOf np g grp ls pr sd sq).F j k = q ∧ (ctxOf np g grp ls pr sd sq).S j k = sq.getD s 0 := by
  constructor
  · unfold Ctx.F
    rw [hx]
    show ((locN grp np g).getD (pr.getD (sd.getD i 0).toNat 0).toNat 0).toNat = q
    rw [hs, Int.toNat_natCast, hl, Int.toNat_natCast]
  · unfold Ctx.S
    rw [hx]
    show sq.getD (sd.getD i 0).toNat 0 = _
    rw [hs, Int.toNat_natCast]

theorem not_first {np n : Nat} {ls : List Int} (hL : Lanes np n ls) (p i : Nat) (hp : p < np) (h1 : ls.getD p 0 < i) (h2 : (i : Int) < ls.getD (p + 1) 0) : Lamp.firstB ls np i = false := by
  unfold Lamp.firstB
  rw [List.any_eq_false]
  intro p' hp'
  rw [List.mem_range] at hp'
  rw [Bool.and_eq_true, not_and]
  intro e
  have e : ls.getD p' 0 = i := by simpa using e
  exfalso
  by_cases h : p' ≤ p
  · have := hL.mono p' p h (by omega); omega
  · have := hL.mono (p + 1) p' (by omega) (by omega); omega

theorem sound_of {np n g : Nat} {grp ls pr sd sq : List Int} (R : Run3 np n g grp ls pr sd sq) : Sound (ctxOf np g grp ls pr sd sq) where
  ok := ctx_ok R.pos
  ev0 j hj := by
    rw [evs_at R.gr j hj]
    have hr := R.gr.inr j hj
    have := R.sh.lanes.up (grp.getD j 0).toNat (by have := hr.1; have := hr.2; omega)
    omega
  ne j k hj hk hx := by
    obtain ⟨i, h1, h2, h3, h4⟩ := cross_iff R hj hk
    obtain ⟨s, q, e1, e2, e3, e4, e5, e6, e7, e8, e9⟩ := cross_facts R hj h2 (h4.1 hx)
    rw [(FS_at h3 e1 e7).1]
    exact e4
  time := by
    obtain ⟨t, hF, hnz⟩ := R.tm
    refine ⟨fun j k => t.getD ((ctxOf np g grp ls pr sd sq).ix j k) 0, ?_, ?_⟩
    · intro j k hj hk
      have hr := R.gr.inr j hj
      obtain ⟨i, h1, h2, h3, _⟩ := cross_iff R hj (k := k) (by omega)
      obtain ⟨i', h1', h2', h3', _⟩ := cross_iff R hj (k := k + 1) (by omega)
      show t.getD ((ctxOf np g grp ls pr sd sq).ix j k) 0 < t.getD ((ctxOf np g grp ls pr sd sq).ix j (k + 1)) 0
      rw [h3, h3']
      have e : i' = i + 1 := by omega
      subst e
      rw [evs_at R.gr j hj] at hk
      have hf := not_first R.sh.lanes (grp.getD j 0).toNat (i + 1) (by have := hr.1; have := hr.2; omega) (by omega) (by omega)
      have he := hF.eq (i + 1) h2'
      have hn := hnz (i + 1) h2'
      rw [he] at hn ⊢
      have := (Lamp.F_gt hn).1 hf
      rwa [Nat.add_sub_cancel] at this
    · intro j k hj hk hx
      obtain ⟨i, h1, h2, h3, h4⟩ := cross_iff R hj hk
      obtain ⟨s, q, e1, e2, e3, e4, e5, e6, e7, e8, e9⟩ := cross_facts R hj h2 (h4.1 hx)
      obtain ⟨f1, f2⟩ := FS_at h3 e1 e7
      show t.getD ((ctxOf np g grp ls pr sd sq).ix ((ctxOf np g grp ls pr sd sq).F j k) ((ctxOf np g grp ls pr sd sq).S j k - 1).toNat) 0 < t.getD ((ctxOf np g grp ls pr sd sq).ix j k) 0
      rw [f1, f2, h3]
      have hix : (ctxOf np g grp ls pr sd sq).ix q (sq.getD s 0 - 1).toNat = s := by
        show (ls.getD (grp.getD q 0).toNat 0 + ((sq.getD s 0 - 1).toNat : Nat)).toNat = s
        rw [← e5, e8]
        omega
      rw [hix]
      have he := hF.eq i h2
      have hn := hnz i h2
      rw [he] at hn ⊢
      have := (Lamp.F_gt hn).2 (by omega)
      rwa [e1, Int.toNat_natCast] at this

theorem fineTo_iff (qs : List Qd) (h : List Int) (x : Nat) : fineTo qs h x = true ↔ ∀ y, y < x → ¬ ((qs.map Qd.b).getD y 0 ≤ h.getD ((qs.map Qd.a).getD y 0).toNat 0 ∧ h.getD ((qs.map Qd.q).getD y 0).toNat 0 < (qs.map Qd.d).getD y 0) := by
  induction x with
  | zero => exact ⟨fun _ y hy => by omega, fun _ => rfl⟩
  | succ x ih =>
    unfold fineTo
    rw [Bool.and_eq_true, ih]
    constructor
    · rintro ⟨a, b⟩ y hy
      by_cases e : y = x
      · subst e
        rintro ⟨c, d⟩
        rw [decide_eq_true c, decide_eq_true d] at b
        cases b
      · exact a y (by omega)
    · intro a
      refine ⟨fun y hy => a y (by omega), ?_⟩
      have := a x (by omega)
      by_cases c : (qs.map Qd.b).getD x 0 ≤ h.getD ((qs.map Qd.a).getD x 0).toNat 0
      · by_cases d : h.getD ((qs.map Qd.q).getD x 0).toNat 0 < (qs.map Qd.d).getD x 0
        · exact absurd ⟨c, d⟩ this
        · rw [decide_eq_false d, Bool.and_false]; rfl
      · rw [decide_eq_false c]; rfl
theorem fine_iff {grp ls pr sd zs : List Int} {qs : List Qd} {g : Nat} (hq : QSpec grp ls pr sd zs qs (fun j _ => j < g)) (h : List Int) : fineTo qs h qs.length = true ↔ ∀ j i, j < g → CrossI grp ls pr sd j i → ¬ ((mkQ grp ls pr sd zs j i).b ≤ h.getD j 0 ∧ h.getD (mkQ grp ls pr sd zs j i).q.toNat 0 < (mkQ grp ls pr sd zs j i).d) := by
  rw [fineTo_iff]
  constructor
  · intro a j i hj hc
    obtain ⟨y, hy, e⟩ := List.mem_iff_getElem.1 (hq.all j i hj hc)
    have := a y hy
    rw [getD_map hy, getD_map hy, getD_map hy, getD_map hy, e] at this
    have ea : (mkQ grp ls pr sd zs j i).a.toNat = j := Int.toNat_natCast j
    rw [ea] at this
    exact this
  · intro a y hy
    obtain ⟨j, i, hj, hc, e⟩ := hq.only qs[y] (List.getElem_mem hy)
    rw [getD_map hy, getD_map hy, getD_map hy, getD_map hy, e]
    have ea : (mkQ grp ls pr sd zs j i).a.toNat = j := Int.toNat_natCast j
    rw [ea]
    exact a j i hj hc

theorem fine_cut {np n g : Nat} {grp ls pr sd sq : List Int} (R : Run3 np n g grp ls pr sd sq) {qs : List Qd} (hq : QSpec grp ls pr sd (zl grp np g) qs (fun j _ => j < g)) {h : List Int} (hl : h.length = g) (h0 : ∀ j, j < g → 0 ≤ h.getD j 0) (h1 : ∀ j, j < g → h.getD j 0 ≤ (ctxOf np g grp ls pr sd sq).evs j) :
    fineTo qs h qs.length = true ↔ Cut (ctxOf np g grp ls pr sd sq) h := by
  rw [fine_iff hq]
  have hqf : ∀ j i, j < g → i < n → CrossI grp ls pr sd j i → ∃ s q : Nat, sd.getD i 0 = s ∧ (locN grp np g).getD (pr.getD s 0).toNat 0 = q ∧ (mkQ grp ls pr sd (zl grp np g) j i).q.toNat = q ∧ (mkQ grp ls pr sd (zl grp np g) j i).d = sq.getD s 0 := by
    intro j i hj hi hc
    obtain ⟨s, q, e1, e2, e3, e4, e5, e6, e7, e8, e9⟩ := cross_facts R hj hi hc
    refine ⟨s, q, e1, e7, ?_, ?_⟩
    · show ((zl grp np g).getD (pr.getD (sd.getD i 0).toNat 0).toNat 0).toNat = q
      rw [e1, Int.toNat_natCast, e6, Int.toNat_natCast]
    · show sd.getD i 0 - ls.getD (pr.getD (sd.getD i 0).toNat 0).toNat 0 + 1 = _
      rw [e1, Int.toNat_natCast, e8]
  constructor
  · intro a
    refine ⟨hl, h0, h1, fun j k hj hk hx => ?_⟩
    have hj : j < g := hj
    have hke := h1 j hj
    obtain ⟨i, f1, f2, f3, f4⟩ := cross_iff R hj (k := k) (by omega)
    have hc := f4.1 hx
    obtain ⟨s, q, e1, e2, e3, e4⟩ := hqf j i hj f2 hc
    obtain ⟨g1, g2⟩ := FS_at f3 e1 e2
    have := a j i hj hc
    rw [e3, e4] at this
    rw [g1, g2]
    have hb : (mkQ grp ls pr sd (zl grp np g) j i).b = (i : Int) - ls.getD (grp.getD j 0).toNat 0 + 1 := rfl
    rw [hb] at this
    by_cases hle : h.getD q 0 < sq.getD s 0
    · exact absurd ⟨by omega, hle⟩ this
    · omega
  · intro hC j i hj hc
    rintro ⟨b1, b2⟩
    have hb : (mkQ grp ls pr sd (zl grp np g) j i).b = (i : Int) - ls.getD (grp.getD j 0).toNat 0 + 1 := rfl
    rw [hb] at b1
    have hke := h1 j hj
    have c1 := hc.1
    obtain ⟨k, hk⟩ : ∃ k : Nat, (i : Int) - ls.getD (grp.getD j 0).toNat 0 = k := ⟨((i : Int) - ls.getD (grp.getD j 0).toNat 0).toNat, by omega⟩
    obtain ⟨i', f1, f2, f3, f4⟩ := cross_iff R hj (k := k) (by omega)
    have e : i' = i := by omega
    subst e
    obtain ⟨s, q, e1, e2, e3, e4⟩ := hqf j i' hj f2 hc
    obtain ⟨g1, g2⟩ := FS_at f3 e1 e2
    have := hC.co j k hj (by omega) (f4.2 hc)
    rw [g1, g2] at this
    rw [e3, e4] at b2
    omega

theorem dig_congr (m m' : Nat → Nat) (j n it : Nat) (h : ∀ i, j ≤ i → i < j + n → m i = m' i) : dig m j n it = dig m' j n it := by
  induction n generalizing j it with
  | zero => rfl
  | succ n ih =>
    unfold dig
    rw [h j (Nat.le_refl _) (by omega), ih (j + 1) _ (fun i h1 h2 => h i (by omega) (by omega))]
theorem pf_congr (m m' : Nat → Nat) (j n : Nat) (h : ∀ i, j ≤ i → i < j + n → m i = m' i) : pf m j n = pf m' j n := by
  induction n generalizing j with
  | zero => rfl
  | succ n ih =>
    unfold pf
    rw [h j (Nat.le_refl _) (by omega), ih (j + 1) (fun i h1 h2 => h i (by omega) (by omega))]
theorem pf_le (m m' : Nat → Nat) (j n : Nat) (h : ∀ i, j ≤ i → i < j + n → m i ≤ m' i) : pf m j n ≤ pf m' j n := by
  induction n generalizing j with
  | zero => exact Nat.le_refl _
  | succ n ih =>
    unfold pf
    exact Nat.mul_le_mul (by have := h j (Nat.le_refl _) (by omega); omega) (ih (j + 1) (fun i h1 h2 => h i (by omega) (by omega)))
theorem dig_le (m : Nat → Nat) (j n it k : Nat) (hk : k < n) : (dig m j n it).getD k 0 ≤ m (j + k) := by
  induction n generalizing j it k with
  | zero => omega
  | succ n ih =>
    unfold dig
    cases k with
    | zero =>
      show ((it % (m j + 1) : Nat) : Int) ≤ m j
      have := Nat.mod_lt it (show 0 < m j + 1 by omega)
      omega
    | succ k =>
      have := ih (j + 1) (it / (m j + 1)) k (by omega)
      rw [show j + 1 + k = j + (k + 1) by omega] at this
      simpa using this

theorem fine_count {np n g : Nat} {grp ls pr sd sq : List Int} (R : Run3 np n g grp ls pr sd sq) {qs : List Qd} (hq : QSpec grp ls pr sd (zl grp np g) qs (fun j _ => j < g)) : IsCnt (ctxOf np g grp ls pr sd sq) (fineCnt qs (mOf grp ls) g) := by
  refine ⟨rfl, fun it => ?_⟩
  have hd : dig (fun j => ((ctxOf np g grp ls pr sd sq).evs j).toNat) 0 (ctxOf np g grp ls pr sd sq).g it = dig (mOf grp ls) 0 g it := dig_congr _ _ _ _ _ (fun i _ hi => m_at R.gr i (by have : (ctxOf np g grp ls pr sd sq).g = g := rfl; omega))
  have hs := sound_of R
  have hfc := fine_cut R hq (dig_len (mOf grp ls) 0 g it) (fun j hj => dig_nonneg _ _ _ _ _) (fun j hj => by
    have h1 := dig_le (mOf grp ls) 0 g it j hj
    have h2 := m_at (pr := pr) (sd := sd) (sq := sq) (ls := ls) R.gr j hj
    have h3 := hs.ev0 j hj
    rw [Nat.zero_add, ← h2] at h1
    omega)
  rw [hd]
  have e : fineCnt qs (mOf grp ls) g (it + 1) = fineCnt qs (mOf grp ls) g it + (if fineTo qs (dig (mOf grp ls) 0 g it) qs.length = true then 1 else 0) := rfl
  rw [e]
  exact ⟨fun hC => by rw [if_pos (hfc.2 hC)], fun hC => by rw [if_neg (fun e => hC (hfc.1 e))]; rfl⟩

/-! ### What the walk answers, by its budget -/
theorem owed_le {g : Nat} : ∀ (p : List PE), (∀ e ∈ p, OkE g e) → owed g p ≤ 2 * g * p.length
  | [], _ => by simp [owed]
  | e :: rest, h => by
    have h1 := owed_le rest (fun x hx => h x (by simp [hx]))
    have h2 := (h e (by simp)).n1
    simp only [owed, List.length_cons]
    rw [show 2 * (g : Int) * ((rest.length + 1 : Nat) : Int) = 2 * (g : Int) * (rest.length : Int) + 2 * (g : Int) by rw [Int.natCast_add, Int.mul_add]; simp]
    omega
theorem steps_le {c : Ctx} (hc : c.Ok) (k : Nat) : (st c k).steps ≤ 2 * c.g * (st c k).count := by
  have hi := inv_st hc k
  have h1 := hi.high
  have h2 := owed_le _ hi.okp
  have h3 : ((2 * c.g * (st c k).count : Nat) : Int) = 2 * (c.g : Int) * ((st c k).count : Int) := by rw [Int.natCast_mul, Int.natCast_mul]; rfl
  have h4 : 2 * (c.g : Int) * (((st c k).count : Int) - ((st c k).path.length : Int)) = 2 * (c.g : Int) * ((st c k).count : Int) - 2 * (c.g : Int) * ((st c k).path.length : Int) := by rw [Int.mul_sub]
  omega
theorem outs_ge {c : Ctx} (hc : c.Ok) {fr : Nat → Nat} (hf : Free c fr) {B0 B : Int} {k : Nat} (h : Done c B0 k) (hB : ((st c k).steps : Int) ≤ B) {x s : Int} {ok : Bool} (h2 : Outs c fr B x s ok) : ok = true ∧ x = (st c k).count ∧ s = (st c k).steps := by
  rcases h2 with ⟨h0, _⟩ | ⟨_, h1, _⟩ | ⟨_, _, k', ⟨h1, h2, h3, h4⟩ | ⟨h1, _⟩⟩
  · exact absurd hc.pos (by omega)
  · have e1 := end_free hc hf h.2
    have e2 := (end_bounds hc h.2).2.1
    omega
  · obtain rfl := h.unique h1
    exact ⟨h4, h2, h3⟩
  · exact (h.not_fails hB h1).elim
theorem outs_lt {c : Ctx} (hc : c.Ok) {fr : Nat → Nat} {B0 B : Int} {k : Nat} (h : Done c B0 k) (hB : B < ((st c k).steps : Int)) {x s : Int} {ok : Bool} (h2 : Outs c fr B x s ok) : ok = false ∧ x = 0 ∧ (s = 0 ∨ B < s) := by
  rcases h2 with ⟨h0, _⟩ | ⟨_, _, h3, h4, h5⟩ | ⟨_, _, k', ⟨h1, _⟩ | ⟨h1, h3, h4, h5⟩⟩
  · exact absurd hc.pos (by omega)
  · exact ⟨h5, h3, .inl h4⟩
  · obtain rfl := h.unique h1
    have := h1.le hc
    omega
  · exact ⟨h5, h3, .inr (by rw [h4]; exact h1.2.2)⟩
theorem outs_big {c : Ctx} (hs : Sound c) {fr : Nat → Nat} (hf : Free c fr) {f : Nat → Nat} (hcf : IsCnt c f) (hT : pf (fun j => (c.evs j).toNat) 0 c.g ≤ 4096) (hg : c.g ≤ 5000) {B : Int} (hB : 41000000 ≤ B) {x s : Int} {ok : Bool} (h : Outs c fr B x s ok) :
    ∃ k, Done c B k ∧ ok = true ∧ x = f (pf (fun j => (c.evs j).toNat) 0 c.g) ∧ x = (st c k).count ∧ s = (st c k).steps := by
  have hb : ∀ k, (st c k).steps ≤ 40960000 := by
    intro k
    have h1 := steps_le hs.ok k
    have h2 := count_le hs k
    have h4 : 2 * c.g * (st c k).count ≤ 2 * 5000 * 4096 := Nat.mul_le_mul (by omega) (by omega)
    omega
  rcases h with ⟨h0, _⟩ | ⟨_, h1, _⟩ | ⟨_, _, k, ⟨h1, h2, h3, h4⟩ | ⟨h1, _⟩⟩
  · exact absurd hs.ok.pos (by omega)
  · exfalso
    have h2 : pf fr 0 c.g ≤ pf (fun j => (c.evs j).toNat) 0 c.g := pf_le _ _ _ _ (fun i _ hi => by
      have := hf.le i (by omega)
      omega)
    omega
  · exact ⟨k, h1, h4, by rw [h2, count_end hs hcf h1.2], h2, h3⟩
  · exfalso
    have := h1.2.2
    have := hb k
    omega
end Go.Proofs.Qxb6603214a
