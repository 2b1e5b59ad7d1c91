import Derived.Test.Qxb6603214aKey
import Derived.Test.Qxb6603214aOwn
namespace Go.Proofs.Qxb6603214a
open Go.RowKit Go.Maps
set_option linter.unusedVariables false

/-! ### What hangs on one block alone -/
theorem IOwn.same {w w' : World} {v : Value} {zs : List Int} (h : IOwn w v zs) (hk : ∀ b, v.ownBlock = some b → w'.heap[b]? = w.heap[b]?) : IOwn w' v zs := by
  refine ⟨h.1, ?_⟩
  rcases h.2 with hn | ⟨g, cap, cur, rfl, hb, hgg, rest⟩
  · exact .inl hn
  · exact .inr ⟨g, cap, cur, rfl, hb, by rw [hk g rfl]; exact hgg, rest⟩
theorem VMap.same {w w' : World} {k : TypeId} {b : Nat} {nil : Value} {sz : Nat} {f : Lit → Value} (h : VMap w k b nil sz f) (hk : w'.heap[b]? = w.heap[b]?) : VMap w' k b nil sz f := by
  obtain ⟨D, ⟨es, cl, hh, r⟩, h2⟩ := h
  exact ⟨D, ⟨es, cl, hk.trans hh, r⟩, h2⟩
theorem Arr.same {w w' : World} {g : Nat} {e : TypeId} {xs : List Value} (h : Arr w g e xs) (hk : w'.heap[g]? = w.heap[g]?) : Arr w' g e xs := by
  unfold Arr; rw [hk]; exact h

/-- A process's number. -/
def InR (np : Nat) (p : Int) : Prop := 0 ≤ p ∧ p < np

/-! ### The memory of newCutCounter. Every block of its own bears a tag (a ghost): [0] the counter, [1] its events, [2] the map, [3] the row of talks, [4, p] the talks of p, [5, p, q] a link, [6, p, q] and [7, p, q] its two lists: blocks of other tags are other blocks. -/
/-- A link's block and its two lists; 'ex': a tag of whose block nothing is said. -/
structure LinkAt (ex : List Int) (w wr : World) (tg : Nat → List Int) (p q : Int) (b : Nat) (vr vs : Value) (rc sn : List Int) : Prop where
  cells : ex ≠ [5, p, q] → Arr wr b 76 [vr, vs]
  tag : tg b = [5, p, q]
  lt : b < wr.heap.size
  lo : w.heap.size ≤ b
  rrow : ex ≠ [6, p, q] → IOwn wr vr rc
  srow : ex ≠ [7, p, q] → IOwn wr vs sn
  rtag : ∀ b', vr.ownBlock = some b' → tg b' = [6, p, q] ∧ w.heap.size ≤ b' ∧ b' < wr.heap.size
  stag : ∀ b', vs.ownBlock = some b' → tg b' = [7, p, q] ∧ w.heap.size ≤ b' ∧ b' < wr.heap.size

structure CMem (ex : List Int) (w wr : World) (C Ge Mb T np sz : Nat) (rp : Value) (ev : List Int) (f : Lit → Value) (tv : Int → Value) (tk : Int → List Int) (pres : Int → Int → Bool) (rc sn : Int → Int → List Int) (tg : Nat → List Int) : Prop where
  cc : ex ≠ [0] → Arr wr C 72 [rp, .slice (some ⟨Ge, 0, none⟩) np np, .map (some Mb), .slice (some ⟨T, 0, none⟩) np np]
  evs : ex ≠ [1] → IArr wr Ge ev
  map : ex ≠ [2] → VMap wr 74 Mb (.pointer none) sz f
  tks : ex ≠ [3] → Arr wr T 23 ((List.range np).map (fun (i : Nat) => tv i))
  rows : ∀ p, ex ≠ [4, p] → IOwn wr (tv p) (tk p)
  rtag : ∀ p b, (tv p).ownBlock = some b → tg b = [4, p] ∧ w.heap.size ≤ b ∧ b < wr.heap.size
  absent : ∀ p q, InR np p → InR np q → pres p q = false → f (key p q) = .pointer none
  link : ∀ p q, InR np p → InR np q → pres p q = true → ∃ b vr vs, f (key p q) = .pointer (some ⟨b, 0, none⟩) ∧ LinkAt ex w wr tg p q b vr vs (rc p q) (sn p q)
  tags : tg C = [0] ∧ tg Ge = [1] ∧ tg Mb = [2] ∧ tg T = [3]
  lts : C < wr.heap.size ∧ Ge < wr.heap.size ∧ Mb < wr.heap.size ∧ T < wr.heap.size
  los : w.heap.size ≤ C ∧ w.heap.size ≤ Ge ∧ w.heap.size ≤ Mb ∧ w.heap.size ≤ T
  below : Below w.heap.size w wr

section
variable {w wr w1 : World} {C Ge Mb T np sz : Nat} {rp : Value} {ev : List Int} {f : Lit → Value} {tv : Int → Value} {tk : Int → List Int} {pres : Int → Int → Bool} {rc sn : Int → Int → List Int} {tg tg1 : Nat → List Int}

/-- Where only blocks of the tag 'ex' turn, all else stays. -/
theorem CMem.turn (h : CMem [] w wr C Ge Mb T np sz rp ev f tv tk pres rc sn tg) (ex : List Int) (hsz : wr.heap.size ≤ w1.heap.size) (hbel : Below w.heap.size w w1)
    (hk : ∀ b, b < wr.heap.size → tg b ≠ ex → w1.heap[b]? = wr.heap[b]?) (ht : ∀ b, b < wr.heap.size → tg1 b = tg b) : CMem ex w w1 C Ge Mb T np sz rp ev f tv tk pres rc sn tg1 := by
  obtain ⟨t0, t1, t2, t3⟩ := h.tags
  obtain ⟨l0, l1, l2, l3⟩ := h.lts
  exact {
    cc := fun hx => (h.cc (by simp)).same (hk C l0 (by rw [t0]; exact fun e => hx e.symm))
    evs := fun hx => (h.evs (by simp)).same (hk Ge l1 (by rw [t1]; exact fun e => hx e.symm))
    map := fun hx => (h.map (by simp)).same (hk Mb l2 (by rw [t2]; exact fun e => hx e.symm))
    tks := fun hx => (h.tks (by simp)).same (hk T l3 (by rw [t3]; exact fun e => hx e.symm))
    rows := fun p hx => (h.rows p (by simp)).same (fun b hb => by
      obtain ⟨a1, a2, a3⟩ := h.rtag p b hb
      exact hk b a3 (by rw [a1]; exact fun e => hx e.symm))
    rtag := fun p b hb => by
      obtain ⟨a1, a2, a3⟩ := h.rtag p b hb
      exact ⟨by rw [ht b a3]; exact a1, a2, by omega⟩
    absent := h.absent
    link := fun p q hp hq hpr => by
      obtain ⟨b, vr, vs, hf, hl⟩ := h.link p q hp hq hpr
      refine ⟨b, vr, vs, hf, ?_⟩
      exact {
        cells := fun hx => (hl.cells (by simp)).same (hk b hl.lt (by rw [hl.tag]; exact fun e => hx e.symm))
        tag := by rw [ht b hl.lt]; exact hl.tag
        lt := by have := hl.lt; omega
        lo := hl.lo
        rrow := fun hx => (hl.rrow (by simp)).same (fun b' hb' => by
          obtain ⟨a1, a2, a3⟩ := hl.rtag b' hb'
          exact hk b' a3 (by rw [a1]; exact fun e => hx e.symm))
        srow := fun hx => (hl.srow (by simp)).same (fun b' hb' => by
          obtain ⟨a1, a2, a3⟩ := hl.stag b' hb'
          exact hk b' a3 (by rw [a1]; exact fun e => hx e.symm))
        rtag := fun b' hb' => by
          obtain ⟨a1, a2, a3⟩ := hl.rtag b' hb'
          exact ⟨by rw [ht b' a3]; exact a1, a2, by omega⟩
        stag := fun b' hb' => by
          obtain ⟨a1, a2, a3⟩ := hl.stag b' hb'
          exact ⟨by rw [ht b' a3]; exact a1, a2, by omega⟩ }
    tags := ⟨by rw [ht C l0]; exact t0, by rw [ht Ge l1]; exact t1, by rw [ht Mb l2]; exact t2, by rw [ht T l3]; exact t3⟩
    lts := by omega
    los := h.los
    below := hbel }

theorem CMem.alloc (h : CMem [] w wr C Ge Mb T np sz rp ev f tv tk pres rc sn tg) (o : Obj) : CMem [] w (wr.alloc o) C Ge Mb T np sz rp ev f tv tk pres rc sn tg :=
  h.turn [] (by simp) (h.below.alloc h.below.size o) (fun b hb _ => Below.heap_alloc _ _ _ hb) (fun b _ => rfl)
theorem CMem.drewN (h : CMem [] w wr C Ge Mb T np sz rp ev f tv tk pres rc sn tg) (q : Nat) : CMem [] w (wr.drewN q) C Ge Mb T np sz rp ev f tv tk pres rc sn tg :=
  h.turn [] (Nat.le_refl _) (below_drewN h.below q) (fun b hb _ => rfl) (fun b _ => rfl)
theorem CMem.drew (h : CMem [] w wr C Ge Mb T np sz rp ev f tv tk pres rc sn tg) : CMem [] w wr.drew C Ge Mb T np sz rp ev f tv tk pres rc sn tg := h.drewN 1

/-- The value at one process turned. -/
def setI {α : Type} (t : Int → α) (p : Int) (x : α) : Int → α := fun r => if r = p then x else t r
theorem setI_same {α : Type} (t : Int → α) (p : Int) (x : α) : setI t p x p = x := by simp [setI]
theorem setI_other {α : Type} (t : Int → α) (p r : Int) (x : α) (h : r ≠ p) : setI t p x r = t r := by simp [setI, h]
/-- .. at one pair. -/
def setII {α : Type} (t : Int → Int → α) (p q : Int) (x : α) : Int → Int → α := fun r s => if r = p ∧ s = q then x else t r s
theorem setII_same {α : Type} (t : Int → Int → α) (p q : Int) (x : α) : setII t p q x p q = x := by simp [setII]
theorem setII_other {α : Type} (t : Int → Int → α) (p q r s : Int) (x : α) (h : ¬ (r = p ∧ s = q)) : setII t p q x r s = t r s := by simp [setII, h]

theorem row_set (tv : Int → Value) (np p : Nat) (v : Value) : ((List.range np).map (fun (i : Nat) => tv i)).set p v = (List.range np).map (fun (i : Nat) => setI tv p v i) := by
  apply List.ext_getElem (by simp)
  intro i h1 h2
  rw [List.getElem_set]
  simp only [List.getElem_map, List.getElem_range]
  by_cases e : p = i
  · subst e; rw [if_pos rfl, setI_same]
  · rw [if_neg e, setI_other _ _ _ _ (by omega)]

/-- A tag for a new block. -/
def tagAt (tg : Nat → List Int) (b0 : Nat) (t : List Int) : Nat → List Int := fun b => if b = b0 then t else tg b
theorem tagAt_same (tg : Nat → List Int) (b0 : Nat) (t : List Int) : tagAt tg b0 t b0 = t := by simp [tagAt]
theorem tagAt_other (tg : Nat → List Int) (b0 : Nat) (t : List Int) (b : Nat) (h : b < b0) : tagAt tg b0 t b = tg b := by simp [tagAt]; omega

/-- A store into a block of the tag 'ex', behind which that block is told anew. -/
theorem CMem.setCell (h : CMem [] w wr C Ge Mb T np sz rp ev f tv tk pres rc sn tg) {a : Addr} (ex : List Int) (ha : a.block < wr.heap.size) (hlo : w.heap.size ≤ a.block) (ht : tg a.block = ex) (u : Value) : CMem ex w (wr.setCell a u) C Ge Mb T np sz rp ev f tv tk pres rc sn tg :=
  h.turn ex (by simp) (h.below.setCell hlo u) (fun b hb hne => Below.heap_setCell _ _ _ _ (fun e => hne (by rw [e]; exact ht))) (fun b _ => rfl)

/-- A talk row has turned, in its own block, or it lies in a new one. -/
theorem CMem.talkRow (h : CMem [] w wr C Ge Mb T np sz rp ev f tv tk pres rc sn tg) {p : Int} {v : Value} {l : List Int} (hg : wr.grownBy w1 (tv p).ownBlock) (hv : IOwn w1 v l) (hl : v.ownBlock = (tv p).ownBlock ∨ v.ownBlock = some wr.heap.size) :
    ∃ tg1, (∀ b, b < wr.heap.size → tg1 b = tg b) ∧ (∀ b, v.ownBlock = some b → tg1 b = [4, p] ∧ w.heap.size ≤ b ∧ b < w1.heap.size) ∧ CMem [4, p] w w1 C Ge Mb T np sz rp ev f tv tk pres rc sn tg1 := by
  have hbel1 : Below w.heap.size w w1 := h.below.grown hg h.below.size (fun k hk => (h.rtag p k hk).2.1)
  refine ⟨tagAt tg wr.heap.size [4, p], fun b hb => tagAt_other _ _ _ _ hb, fun b hb => ?_, h.turn [4, p] hg.size hbel1 (fun b hb hne => hg.block b hb (fun e => hne (h.rtag p b e.symm).1)) (fun b hb => tagAt_other _ _ _ _ hb)⟩
  have hlt := hv.lt b hb
  rcases hl with hl | hl
  · rw [hl] at hb
    obtain ⟨a1, a2, a3⟩ := h.rtag p b hb
    exact ⟨by rw [tagAt_other _ _ _ _ a3]; exact a1, a2, hlt⟩
  · rw [hl] at hb
    cases hb
    exact ⟨tagAt_same _ _ _, h.below.size, hlt⟩

/-- .. and is stored: 'cc.talks[p] = v'. -/
theorem CMem.talk (h : CMem [] w wr C Ge Mb T np sz rp ev f tv tk pres rc sn tg) {p : Nat} {v : Value} {l : List Int} (hg : wr.grownBy w1 (tv p).ownBlock) (hv : IOwn w1 v l) (hl : v.ownBlock = (tv p).ownBlock ∨ v.ownBlock = some wr.heap.size) :
    ∃ tg1, CMem [] w (w1.setCell ⟨T, p, none⟩ v) C Ge Mb T np sz rp ev f (setI tv p v) (setI tk p l) pres rc sn tg1 := by
  obtain ⟨tg1, htg, htv, h1⟩ := h.talkRow hg hv hl
  refine ⟨tg1, ?_⟩
  have hne : ∀ b, tg1 b ≠ [3] → b ≠ T := fun b hb e => hb (e ▸ h1.tags.2.2.2)
  have hset : ∀ b, tg1 b ≠ [3] → (w1.setCell ⟨T, p, none⟩ v).heap[b]? = w1.heap[b]? := fun b hb => Below.heap_setCell _ _ _ _ (hne b hb)
  have hszs : (w1.setCell ⟨T, p, none⟩ v).heap.size = w1.heap.size := by simp
  exact {
    cc := fun _ => (h1.cc (by simp)).same (hset C (by rw [h1.tags.1]; simp))
    evs := fun _ => (h1.evs (by simp)).same (hset Ge (by rw [h1.tags.2.1]; simp))
    map := fun _ => (h1.map (by simp)).same (hset Mb (by rw [h1.tags.2.2.1]; simp))
    tks := fun _ => by rw [← row_set]; exact (h1.tks (by simp)).set p v
    rows := fun r _ => by
      by_cases e : r = p
      · subst e
        rw [setI_same, setI_same]
        exact hv.same (fun b hb => hset b (by rw [(htv b hb).1]; simp))
      · rw [setI_other _ _ _ _ e, setI_other _ _ _ _ e]
        exact (h1.rows r (by simpa using fun e2 => e e2.symm)).same (fun b hb => hset b (by rw [(h1.rtag r b hb).1]; simp))
    rtag := fun r b hb => by
      rw [hszs]
      by_cases e : r = p
      · subst e
        rw [setI_same] at hb
        exact htv b hb
      · rw [setI_other _ _ _ _ e] at hb
        exact h1.rtag r b hb
    absent := h1.absent
    link := fun r s hr hs hpr => by
      obtain ⟨b, vr, vs, hf, hl⟩ := h1.link r s hr hs hpr
      refine ⟨b, vr, vs, hf, ?_⟩
      exact {
        cells := fun _ => (hl.cells (by simp)).same (hset b (by rw [hl.tag]; simp))
        tag := hl.tag
        lt := by rw [hszs]; exact hl.lt
        lo := hl.lo
        rrow := fun _ => (hl.rrow (by simp)).same (fun b' hb' => hset b' (by rw [(hl.rtag b' hb').1]; simp))
        srow := fun _ => (hl.srow (by simp)).same (fun b' hb' => hset b' (by rw [(hl.stag b' hb').1]; simp))
        rtag := fun b' hb' => by rw [hszs]; exact hl.rtag b' hb'
        stag := fun b' hb' => by rw [hszs]; exact hl.stag b' hb' }
    tags := h1.tags
    lts := by rw [hszs]; exact h1.lts
    los := h1.los
    below := h1.below.setCell h.los.2.2.2 _ }

/-- A talk row has turned in its place: 'slices.Sort(cc.talks[p])'. -/
theorem CMem.talkSort (h : CMem [] w wr C Ge Mb T np sz rp ev f tv tk pres rc sn tg) {p : Int} {l : List Int} (hg : wr.grownBy w1 (tv p).ownBlock) (hv : IOwn w1 (tv p) l) :
    ∃ tg1, CMem [] w w1 C Ge Mb T np sz rp ev f tv (setI tk p l) pres rc sn tg1 := by
  obtain ⟨tg1, htg, htv, h1⟩ := h.talkRow hg hv (.inl rfl)
  refine ⟨tg1, ?_⟩
  exact {
    cc := fun _ => h1.cc (by simp)
    evs := fun _ => h1.evs (by simp)
    map := fun _ => h1.map (by simp)
    tks := fun _ => h1.tks (by simp)
    rows := fun r _ => by
      by_cases e : r = p
      · subst e; rw [setI_same]; exact hv
      · rw [setI_other _ _ _ _ e]
        exact h1.rows r (by simpa using fun e2 => e e2.symm)
    rtag := h1.rtag
    absent := h1.absent
    link := fun r s hr hs hpr => by
      obtain ⟨b, vr, vs, hf, hl⟩ := h1.link r s hr hs hpr
      exact ⟨b, vr, vs, hf, { cells := fun _ => hl.cells (by simp), tag := hl.tag, lt := hl.lt, lo := hl.lo, rrow := fun _ => hl.rrow (by simp), srow := fun _ => hl.srow (by simp), rtag := hl.rtag, stag := hl.stag }⟩
    tags := h1.tags
    lts := h1.lts
    los := h1.los
    below := h1.below }

/-- A new link, empty: its block laid, its pointer in the map. -/
theorem CMem.newLink (h : CMem [] w wr C Ge Mb T np sz rp ev f tv tk pres rc sn tg) {p q : Int} {w2 : World} {sz' : Nat} {f1 : Lit → Value} (hp : InR np p) (hq : InR np q) (hnp : np ≤ 100000)
    (hm : VMap w2 74 Mb (.pointer none) sz' f1) (hu : Upd f f1 (key p q) (.pointer (some ⟨wr.heap.size, 0, none⟩))) (hg : (wr.alloc (.cells #[.slice none 0 0, .slice none 0 0] 76)).grownBy w2 (some Mb)) (hr0 : rc p q = []) (hs0 : sn p q = []) :
    ∃ tg1, CMem [] w w2 C Ge Mb T np sz' rp ev f1 tv tk (setII pres p q true) rc sn tg1 := by
  have hw : ∀ r, InR np r → (Lit.int .i64 r).wf = true := fun r hr => WalkArith.wf_i64 ⟨by have := hr.1; omega, by have := hr.2; omega⟩
  have hMlt := h.lts.2.2.1
  have h1 := h.turn (w1 := w2) (tg1 := tagAt tg wr.heap.size [5, p, q]) [2] (by have := hg.size; simp at this; omega)
    ((h.below.alloc h.below.size _).grown hg (by have := h.below.size; simp; omega) (fun k hk => by cases hk; exact h.los.2.2.1))
    (fun b hb hne => by
      rw [hg.block b (by simp; omega) (fun e => hne (by cases e; exact h.tags.2.2.1))]
      exact Below.heap_alloc _ _ _ hb) (fun b hb => tagAt_other _ _ _ _ hb)
  have hsz2 : wr.heap.size < w2.heap.size := by have := hg.size; simp at this; omega
  refine ⟨tagAt tg wr.heap.size [5, p, q], ?_⟩
  exact {
    cc := fun _ => h1.cc (by simp)
    evs := fun _ => h1.evs (by simp)
    map := fun _ => hm
    tks := fun _ => h1.tks (by simp)
    rows := fun r _ => h1.rows r (by simp)
    rtag := h1.rtag
    absent := fun r s hr hs hpr => by
      by_cases e : r = p ∧ s = q
      · obtain ⟨rfl, rfl⟩ := e; rw [setII_same] at hpr; cases hpr
      · rw [setII_other _ _ _ _ _ _ e] at hpr
        rw [hu.other _ (fun e2 => e (key_inj r s p q (hw r hr) (hw s hs) (hw p hp) (hw q hq) e2))]
        exact h.absent r s hr hs hpr
    link := fun r s hr hs hpr => by
      by_cases e : r = p ∧ s = q
      · obtain ⟨rfl, rfl⟩ := e
        refine ⟨wr.heap.size, .slice none 0 0, .slice none 0 0, hu.same, ?_⟩
        exact {
          cells := fun _ => by
            have := Arr.new wr #[.slice none 0 0, .slice none 0 0] 76
            exact this.same (hg.block _ (by simp) (by simp; omega))
          tag := tagAt_same _ _ _
          lt := hsz2
          lo := h.below.size
          rrow := fun _ => by rw [hr0]; exact IOwn.nil _
          srow := fun _ => by rw [hs0]; exact IOwn.nil _
          rtag := fun b' hb' => by simp [Value.ownBlock] at hb'
          stag := fun b' hb' => by simp [Value.ownBlock] at hb' }
      · rw [setII_other _ _ _ _ _ _ e] at hpr
        obtain ⟨b, vr, vs, hf, hl⟩ := h1.link r s hr hs hpr
        refine ⟨b, vr, vs, by rw [hu.other _ (fun e2 => e (key_inj r s p q (hw r hr) (hw s hs) (hw p hp) (hw q hq) e2))]; exact hf, ?_⟩
        exact { cells := fun _ => hl.cells (by simp), tag := hl.tag, lt := hl.lt, lo := hl.lo, rrow := fun _ => hl.rrow (by simp), srow := fun _ => hl.srow (by simp), rtag := hl.rtag, stag := hl.stag }
    tags := h1.tags
    lts := h1.lts
    los := h1.los
    below := h1.below }

/-- A list of a link has turned and is stored into the link's block: which = 0: 'recv', 1: 'send'. -/
theorem CMem.linkList (h : CMem [] w wr C Ge Mb T np sz rp ev f tv tk pres rc sn tg) {p q : Int} (hp : InR np p) (hq : InR np q) (hnp : np ≤ 100000) (hpr : pres p q = true) {b : Nat} {vr vs : Value} (hf : f (key p q) = .pointer (some ⟨b, 0, none⟩)) (hl : LinkAt [] w wr tg p q b vr vs (rc p q) (sn p q)) (which : Bool) {v : Value} {l : List Int}
    (hg : wr.grownBy w1 (if which then vs else vr).ownBlock) (hv : IOwn w1 v l) (hloc : v.ownBlock = (if which then vs else vr).ownBlock ∨ v.ownBlock = some wr.heap.size) :
    ∃ tg1, CMem [] w (w1.setCell ⟨b, if which then 1 else 0, none⟩ v) C Ge Mb T np sz rp ev f tv tk pres (if which then rc else setII rc p q l) (if which then setII sn p q l else sn) tg1 := by
  obtain ⟨ex, hex⟩ : ∃ ex : List Int, ex = (if which then [7, p, q] else [6, p, q]) := ⟨_, rfl⟩
  have hrow : ∀ k, (if which then vs else vr).ownBlock = some k → tg k = ex ∧ w.heap.size ≤ k ∧ k < wr.heap.size := by
    intro k hk
    cases which with
    | true => simp at hk hex; rw [hex]; exact hl.stag k hk
    | false => simp at hk hex; rw [hex]; exact hl.rtag k hk
  have hbel1 : Below w.heap.size w w1 := h.below.grown hg h.below.size (fun k hk => (hrow k hk).2.1)
  have h1 := h.turn (w1 := w1) (tg1 := tagAt tg wr.heap.size ex) ex hg.size hbel1 (fun b hb hne => hg.block b hb (fun e => hne (hrow b e.symm).1)) (fun b hb => tagAt_other _ _ _ _ hb)
  have htv : ∀ k, v.ownBlock = some k → tagAt tg wr.heap.size ex k = ex ∧ w.heap.size ≤ k ∧ k < w1.heap.size := by
    intro k hk
    have hlt := hv.lt k hk
    rcases hloc with hloc | hloc
    · rw [hloc] at hk
      obtain ⟨a1, a2, a3⟩ := hrow k hk
      exact ⟨by rw [tagAt_other _ _ _ _ a3]; exact a1, a2, hlt⟩
    · rw [hloc] at hk
      cases hk
      exact ⟨tagAt_same _ _ _, h.below.size, hlt⟩
  obtain ⟨tg1, htg1⟩ : ∃ tg1, tg1 = tagAt tg wr.heap.size ex := ⟨_, rfl⟩
  rw [← htg1] at h1 htv
  have hexc : ex = [6, p, q] ∨ ex = [7, p, q] := by rw [hex]; cases which <;> simp
  obtain ⟨b', vr', vs', hf', hl'⟩ := h1.link p q hp hq hpr
  rw [hf] at hf'
  simp at hf'
  subst hf'
  have hcells := hl'.cells (by rcases hexc with e | e <;> rw [e] <;> simp)
  have hcells0 := hl.cells (by simp)
  have hsame : w1.heap[b]? = wr.heap[b]? := hg.block b hl.lt (fun e => by
    have := (hrow b e.symm).1
    rw [hl.tag] at this
    rcases hexc with e | e <;> rw [e] at this <;> simp at this)
  have hcells1 := hcells0.same hsame
  unfold Arr at hcells hcells1
  rw [hcells] at hcells1
  simp at hcells1
  obtain ⟨rfl, rfl⟩ := hcells1
  have hcells := hl'.cells (by rcases hexc with e | e <;> rw [e] <;> simp)
  refine ⟨tg1, ?_⟩
  have hne : ∀ k, tg1 k ≠ [5, p, q] → k ≠ b := fun k hk e => hk (e ▸ hl'.tag)
  have hset : ∀ k, tg1 k ≠ [5, p, q] → (w1.setCell ⟨b, if which then 1 else 0, none⟩ v).heap[k]? = w1.heap[k]? := fun k hk => Below.heap_setCell _ _ _ _ (hne k hk)
  have hszs : (w1.setCell ⟨b, if which then 1 else 0, none⟩ v).heap.size = w1.heap.size := by simp
  have hx0 : ∀ t : List Int, t.length < 3 → ex ≠ t := by
    intro t ht e
    rcases hexc with e2 | e2 <;> rw [e2] at e <;> subst e <;> simp at ht
  exact {
    cc := fun _ => (h1.cc (hx0 _ (by simp))).same (hset C (by rw [h1.tags.1]; simp))
    evs := fun _ => (h1.evs (hx0 _ (by simp))).same (hset Ge (by rw [h1.tags.2.1]; simp))
    map := fun _ => (h1.map (hx0 _ (by simp))).same (hset Mb (by rw [h1.tags.2.2.1]; simp))
    tks := fun _ => (h1.tks (hx0 _ (by simp))).same (hset T (by rw [h1.tags.2.2.2]; simp))
    rows := fun r _ => (h1.rows r (hx0 _ (by simp))).same (fun k hk => hset k (by rw [(h1.rtag r k hk).1]; simp))
    rtag := fun r k hk => by rw [hszs]; exact h1.rtag r k hk
    absent := h1.absent
    link := fun r s hr hs hprs => by
      by_cases e : r = p ∧ s = q
      · obtain ⟨rfl, rfl⟩ := e
        cases which with
        | true =>
          simp only [if_true] at hex hset ⊢
          refine ⟨b, vr', v, hf, ?_⟩
          exact {
            cells := fun _ => hcells.set 1 v
            tag := hl'.tag
            lt := by rw [World.size_setCell]; exact hl'.lt
            lo := hl'.lo
            rrow := fun _ => (hl'.rrow (by rw [hex]; simp)).same (fun k hk => hset k (by rw [(hl'.rtag k hk).1]; simp))
            srow := fun _ => by rw [setII_same]; exact hv.same (fun k hk => hset k (by rw [(htv k hk).1, hex]; simp))
            rtag := fun k hk => by rw [World.size_setCell]; exact hl'.rtag k hk
            stag := fun k hk => by rw [World.size_setCell, ← hex]; exact htv k hk }
        | false =>
          simp only [Bool.false_eq_true, if_false] at hex hset ⊢
          refine ⟨b, v, vs', hf, ?_⟩
          exact {
            cells := fun _ => hcells.set 0 v
            tag := hl'.tag
            lt := by rw [World.size_setCell]; exact hl'.lt
            lo := hl'.lo
            rrow := fun _ => by rw [setII_same]; exact hv.same (fun k hk => hset k (by rw [(htv k hk).1, hex]; simp))
            srow := fun _ => (hl'.srow (by rw [hex]; simp)).same (fun k hk => hset k (by rw [(hl'.stag k hk).1]; simp))
            rtag := fun k hk => by rw [World.size_setCell, ← hex]; exact htv k hk
            stag := fun k hk => by rw [World.size_setCell]; exact hl'.stag k hk }
      · obtain ⟨b2, vr2, vs2, hf2, hl2⟩ := h1.link r s hr hs hprs
        have e6 : ∀ x : Int, ([x, r, s] : List Int) ≠ [x, p, q] := fun x e2 => e (by simpa using e2)
        have hr2 : (if which then rc else setII rc p q l) r s = rc r s := by cases which <;> simp [setII, e]
        have hs2 : (if which then setII sn p q l else sn) r s = sn r s := by cases which <;> simp [setII, e]
        rw [hr2, hs2]
        refine ⟨b2, vr2, vs2, hf2, ?_⟩
        have hexr : ex ≠ [6, r, s] := by rcases hexc with e2 | e2 <;> rw [e2]; · exact fun e3 => e6 6 e3.symm
                                         · simp
        have hexs : ex ≠ [7, r, s] := by rcases hexc with e2 | e2 <;> rw [e2]; · simp
                                         · exact fun e3 => e6 7 e3.symm
        have hex5 : ex ≠ [5, r, s] := by rcases hexc with e2 | e2 <;> rw [e2] <;> simp
        exact {
          cells := fun _ => (hl2.cells hex5).same (hset b2 (by rw [hl2.tag]; exact e6 5))
          tag := hl2.tag
          lt := by rw [hszs]; exact hl2.lt
          lo := hl2.lo
          rrow := fun _ => (hl2.rrow hexr).same (fun k hk => hset k (by rw [(hl2.rtag k hk).1]; simp))
          srow := fun _ => (hl2.srow hexs).same (fun k hk => hset k (by rw [(hl2.stag k hk).1]; simp))
          rtag := fun k hk => by rw [hszs]; exact hl2.rtag k hk
          stag := fun k hk => by rw [hszs]; exact hl2.stag k hk }
    tags := h1.tags
    lts := by rw [hszs]; exact h1.lts
    los := h1.los
    below := h1.below.setCell hl.lo _ }
end
end Go.Proofs.Qxb6603214a
