import Derived.Test.Qxb6603214aCutP
import Derived.Test.Qxb6603214aSortC
import Derived.Test.Qxb6603214aRun
import Derived.Test.Qxb6603214aModel
import Derived.Deep.RegionWith
import Derived.Deep.RegionLaw
namespace Go.Proofs.Qxb6603214a
open Go.RowKit Go.Maps
set_option linter.unusedVariables false

/-! ### Cells of the counter's memory -/
section
variable {ex : List Int} {w wr w1 : World} {C Ge Mb T np sz : Nat} {rp : Value} {ev : List Int} {f : Lit → Value} {tv : Int → Value} {tk : Int → List Int} {pres : Int → Int → Bool} {rc sn : Int → Int → List Int} {tg tg1 : Nat → List Int}
theorem CMem.c0 (h : CMem ex w wr C Ge Mb T np sz rp ev f tv tk pres rc sn tg) (hex : ex ≠ [0]) : wr.cell? ⟨C, 0, none⟩ = some rp := by rw [(h.cc hex).cell]; rfl
theorem CMem.c1 (h : CMem ex w wr C Ge Mb T np sz rp ev f tv tk pres rc sn tg) (hex : ex ≠ [0]) : wr.cell? ⟨C, 1, none⟩ = some (.slice (some ⟨Ge, 0, none⟩) np np) := by rw [(h.cc hex).cell]; rfl
theorem CMem.c2 (h : CMem ex w wr C Ge Mb T np sz rp ev f tv tk pres rc sn tg) (hex : ex ≠ [0]) : wr.cell? ⟨C, 2, none⟩ = some (.map (some Mb)) := by rw [(h.cc hex).cell]; rfl
theorem CMem.c3 (h : CMem ex w wr C Ge Mb T np sz rp ev f tv tk pres rc sn tg) (hex : ex ≠ [0]) : wr.cell? ⟨C, 3, none⟩ = some (.slice (some ⟨T, 0, none⟩) np np) := by rw [(h.cc hex).cell]; rfl
theorem CMem.tcell (h : CMem ex w wr C Ge Mb T np sz rp ev f tv tk pres rc sn tg) (hex : ex ≠ [3]) (p : Nat) (hp : p < np) : wr.cell? ⟨T, p, none⟩ = some (tv p) := by
  rw [(h.tks hex).cell]
  simp [hp]
theorem CMem.tfroz (h : CMem ex w wr C Ge Mb T np sz rp ev f tv tk pres rc sn tg) (hex : ex ≠ [3]) (p : Nat) : wr.frozen? ⟨T, p, none⟩ = false := (h.tks hex).frozen p

/-- 'cc.talks[p] = append(cc.talks[p], x)', behind the append: what the rest of the statement reads, and what it leaves. -/
theorem CMem.talkApp (h : CMem [] w wr C Ge Mb T np sz rp ev f tv tk pres rc sn tg) {p : Nat} {g cap : Nat} {x : Int} (hp : p < np) (hr : IRow w1 g cap (tk p ++ [x])) (hg : wr.grownBy w1 (tv p).ownBlock) (hl : (tv p).ownBlock = some g ∨ g = wr.heap.size) :
    w1.cell? ⟨C, 3, none⟩ = some (.slice (some ⟨T, 0, none⟩) np np) ∧ w1.cell? ⟨T, p, none⟩ = some (tv p) ∧ w1.frozen? ⟨T, p, none⟩ = false ∧
    ∃ tg1, CMem [] w (w1.setCell ⟨T, p, none⟩ (.slice (some ⟨g, 0, none⟩) ((tk p).length + 1) cap)) C Ge Mb T np sz rp ev f (setI tv p (.slice (some ⟨g, 0, none⟩) ((tk p).length + 1) cap)) (setI tk p (tk p ++ [x])) pres rc sn tg1 := by
  have hv : IOwn w1 (.slice (some ⟨g, 0, none⟩) ((tk p).length + 1) cap) (tk p ++ [x]) := by
    have := hr
    unfold IRow at this
    simpa using this
  have hl' : (Value.slice (some ⟨g, 0, none⟩) ((tk p).length + 1) cap).ownBlock = (tv p).ownBlock ∨ (Value.slice (some ⟨g, 0, none⟩) ((tk p).length + 1) cap).ownBlock = some wr.heap.size := by
    rcases hl with e | e
    · exact .inl e.symm
    · exact .inr (by rw [e]; rfl)
  obtain ⟨tg1, _, _, h4⟩ := h.talkRow (p := p) hg hv hl'
  exact ⟨h4.c3 (by simp), h4.tcell (by simp) p hp, h4.tfroz (by simp) p, h.talk hg hv hl'⟩
end

/-- A talk row turned, behind the call or the append: what the rest of the statement reads, and what it leaves. -/
theorem CMem.talkNew {w wr w1 : World} {C Ge Mb T np sz : Nat} {rp : Value} {ev : List Int} {f : Lit → Value} {tv : Int → Value} {tk : Int → List Int} {pres : Int → Int → Bool} {rc sn : Int → Int → List Int} {tg : Nat → List Int}
    (h : CMem [] w wr C Ge Mb T np sz rp ev f tv tk pres rc sn tg) {p : Nat} {v : Value} {l : List Int} (hp : p < np) (hv : IOwn w1 v l) (hg : wr.grownBy w1 (tv p).ownBlock) (hl : v.ownBlock = (tv p).ownBlock ∨ v.ownBlock = some wr.heap.size) :
    w1.cell? ⟨C, 3, none⟩ = some (.slice (some ⟨T, 0, none⟩) np np) ∧ w1.cell? ⟨T, p, none⟩ = some (tv p) ∧ w1.frozen? ⟨T, p, none⟩ = false ∧
    ∃ tg1, CMem [] w (w1.setCell ⟨T, p, none⟩ v) C Ge Mb T np sz rp ev f (setI tv p v) (setI tk p l) pres rc sn tg1 := by
  obtain ⟨tg1, _, _, h4⟩ := h.talkRow (p := p) hg hv hl
  exact ⟨h4.c3 (by simp), h4.tcell (by simp) p hp, h4.tfroz (by simp) p, h.talk hg hv hl⟩

/-- 'l.recv = append(l.recv, x)' (which: 'l.send'), behind the append. -/
theorem CMem.linkApp {w wr w1 : World} {C Ge Mb T np sz : Nat} {rp : Value} {ev : List Int} {f : Lit → Value} {tv : Int → Value} {tk : Int → List Int} {pres : Int → Int → Bool} {rc sn : Int → Int → List Int} {tg : Nat → List Int}
    (h : CMem [] w wr C Ge Mb T np sz rp ev f tv tk pres rc sn tg) {p q : Int} (hp : InR np p) (hq : InR np q) (hnp : np ≤ 100000) (hpr : pres p q = true) {b : Nat} {vr vs : Value} (hf : f (key p q) = .pointer (some ⟨b, 0, none⟩)) (hl : LinkAt [] w wr tg p q b vr vs (rc p q) (sn p q)) (which : Bool) {g cap : Nat} {x : Int} {l : List Int}
    (hll : l = if which then sn p q else rc p q) (hr : IRow w1 g cap (l ++ [x])) (hg : wr.grownBy w1 (if which then vs else vr).ownBlock) (hloc : (if which then vs else vr).ownBlock = some g ∨ g = wr.heap.size) :
    (∃ u, w1.cell? ⟨b, if which then 1 else 0, none⟩ = some u) ∧ w1.frozen? ⟨b, if which then 1 else 0, none⟩ = false ∧
    ∃ tg1, CMem [] w (w1.setCell ⟨b, if which then 1 else 0, none⟩ (.slice (some ⟨g, 0, none⟩) (l.length + 1) cap)) C Ge Mb T np sz rp ev f tv tk pres (if which then rc else setII rc p q (l ++ [x])) (if which then setII sn p q (l ++ [x]) else sn) tg1 := by
  have hv : IOwn w1 (.slice (some ⟨g, 0, none⟩) (l.length + 1) cap) (l ++ [x]) := by
    have := hr
    unfold IRow at this
    simpa using this
  have hl' : (Value.slice (some ⟨g, 0, none⟩) (l.length + 1) cap).ownBlock = (if which then vs else vr).ownBlock ∨ (Value.slice (some ⟨g, 0, none⟩) (l.length + 1) cap).ownBlock = some wr.heap.size := by
    rcases hloc with e | e
    · exact .inl e.symm
    · exact .inr (by rw [e]; rfl)
  have hsame : w1.heap[b]? = wr.heap[b]? := hg.block b hl.lt (fun e => by
    cases which with
    | true =>
      have := (hl.stag b e.symm).1
      rw [hl.tag] at this
      simp at this
    | false =>
      have := (hl.rtag b e.symm).1
      rw [hl.tag] at this
      simp at this)
  have hc := (hl.cells (by simp)).same hsame
  refine ⟨?_, hc.frozen _, h.linkList hp hq hnp hpr hf hl which hg hv hl'⟩
  rw [hc.cell]
  cases which <;> exact ⟨_, rfl⟩

/-- 'It answers the list l, in the memory of v.' -/
def CompactedL (v : Value) (l : List Int) (w : World) (e : Ending) (w' : World) : Prop := ∃ a c n, n = l.length ∧ e = .returned (.slice a n c) ∧ IOwn w' (.slice a n c) l ∧ w.grownBy w' v.ownBlock ∧ (Value.slice a n c).ownBlock = v.ownBlock
theorem compact_uniq (v : Value) (zs : List Int) (w : World) (h : IOwn w v (zs.mergeSort fun x y => decide (x ≤ y))) (hl : (zs.mergeSort fun x y => decide (x ≤ y)).length ≤ 10000000) : Calls Try.prog 44 #[v] w (CompactedL v (uniq zs) w) := by
  refine (compact_own v _ w h hl).mono ?_
  rintro e w' ⟨a, c, rfl, r1, r2, r3⟩
  exact ⟨a, c, _, rfl, rfl, r1, r2, r3⟩
/-- The talks of the first j processes sorted, each but once. -/
def tkTo (tk : Int → List Int) (j : Nat) : Int → List Int := fun p => if 0 ≤ p ∧ p < j then uniq (tk p) else tk p
theorem tkTo_zero (tk : Int → List Int) : tkTo tk 0 = tk := by
  funext p
  unfold tkTo
  rw [if_neg (by omega)]
theorem tkTo_at (tk : Int → List Int) (j : Nat) : tkTo tk j j = tk j := by
  unfold tkTo
  rw [if_neg (by omega)]
theorem tkTo_succ (tk : Int → List Int) (j : Nat) (l : List Int) : setI (setI (tkTo tk j) j l) j (uniq (tk j)) = tkTo tk (j + 1) := by
  funext p
  unfold setI tkTo
  by_cases e : p = j
  · subst e; rw [if_pos rfl, if_pos (by omega)]
  · rw [if_neg e, if_neg e]
    by_cases h : 0 ≤ p ∧ p < j
    · rw [if_pos h, if_pos (by omega)]
    · rw [if_neg h, if_neg (by omega)]

theorem step_iappend1 {ops : Array Oper} {o : Oper} {a : Act} {w : World} {K : Act → World → Prop} {Q : Exit → Act → World → Prop} {E : Prop}
    (hgd : o.guard = none) (s x : Operand) (ho : o.op = .call { callee := .builtin .append, args := #[s, x], argTypes := #[23, 23] })
    (v : Value) (zs : List Int) (y : Int) (b : Nat) (hs : a.eval s = v) (h : IOwn w v zs) (hx : a.eval x = .slice (some ⟨b, 0, none⟩) 1 1) (hy : w.cell? ⟨b, 0, none⟩ = some (.int .i64 y)) (hb : zs.length + 1 ≤ 10000000)
    (hK : ∀ g cap w', IRow w' g cap (zs ++ [y]) → w.grownBy w' v.ownBlock → (v.ownBlock = some g ∨ g = w.heap.size) → K (a.put o.dst (.slice (some ⟨g, 0, none⟩) (zs.length + 1) cap)) w') :
    if Region.wanted o (yielded ops a.tmps) = true then Oper.wp Try.prog o a w K Q else E := by
  have hw : Region.wanted o (yielded ops a.tmps) = true := by simp [Region.wanted, hgd]
  rw [if_pos hw]
  obtain ⟨v', w', hr, h1, h2, h3, h4⟩ := run_iappend (ys := [y]) h (some ⟨b, 0, none⟩) 1 (by simp) (fun j hj => ⟨b, 0, rfl, by simp at hj; subst hj; simpa using hy⟩) hb o.type
  rcases h1.cases with ⟨_, e⟩ | ⟨g, cap, hv, hrow⟩
  · simp at e
  · unfold Oper.wp execOp
    simp only [ho, resolve, invoke, builtin, Sem.run_bind, Sem.run_pure, Result.andThen_ok, List.map_toArray, List.map_cons, List.map_nil, hs, hx]
    simp only [List.length_singleton] at hr
    rw [hr]
    simp only [Result.andThen_ok]
    have hv2 : v' = .slice (some ⟨g, 0, none⟩) (zs.length + 1) cap := by rw [hv]; simp
    show K (a.put o.dst v') w'
    rw [hv2]
    refine hK g cap w' hrow h2 ?_
    rw [hv] at h4
    simp [Value.ownBlock] at h4
    rcases h4 with h4 | h4
    · left; rw [h4]; rfl
    · right; exact h4

/-- The counter's memory at a plain state. -/
def NC (w wr : World) (C Ge Mb T np : Nat) (rp : Value) (ev : List Int) (s : LS) : Prop := ∃ f tv tg, CMem [] w wr C Ge Mb T np s.sz rp ev f tv s.tk s.pres s.rc s.sn tg
/-- What newCutCounter leaves. -/
def NCMade (w : World) (np : Nat) (rp : Value) (ev : List Int) (s : LS) (e : Ending) (w' : World) : Prop := ∃ C Ge Mb T, e = .returned (.pointer (some ⟨C, 0, none⟩)) ∧ NC w w' C Ge Mb T np rp ev { s with tk := tkTo s.tk np }
/-- .. where 'b' is the link of p and q. -/
def NL (w wr : World) (C Ge Mb T np : Nat) (rp : Value) (ev : List Int) (s : LS) (p q : Int) (b : Nat) : Prop := ∃ f tv tg, CMem [] w wr C Ge Mb T np s.sz rp ev f tv s.tk s.pres s.rc s.sn tg ∧ f (key p q) = .pointer (some ⟨b, 0, none⟩)
/-- The sizes of the first k lanes. -/
def evTo (ls : List Int) (np k : Nat) : List Int := (List.range np).map (fun p => if p < k then ls.getD (p + 1) 0 - ls.getD p 0 else 0)
theorem evTo_zero (ls : List Int) (np : Nat) : evTo ls np 0 = List.replicate np 0 := by
  unfold evTo
  apply List.ext_getElem (by simp)
  intro i h1 h2
  simp
theorem evTo_succ (ls : List Int) (np k : Nat) (hk : k < np) : (evTo ls np k).set k (ls.getD (k + 1) 0 - ls.getD k 0) = evTo ls np (k + 1) := by
  unfold evTo
  apply List.ext_getElem (by simp)
  intro i h1 h2
  rw [List.getElem_set]
  simp only [List.getElem_map, List.getElem_range]
  by_cases e : k = i
  · subst e; rw [if_pos rfl, if_pos (by omega)]
  · rw [if_neg e]
    by_cases h : i < k
    · rw [if_pos h, if_pos (by omega)]
    · rw [if_neg h, if_neg (by omega)]

theorem crossB_neg (pr sd : List Int) (m : Nat) (h : sd.getD m 0 < 0) : crossB pr sd m = false := by
  unfold crossB
  rw [decide_eq_false_iff_not]
  omega
theorem crossB_at (pr sd : List Int) (m S : Nat) (h : sd.getD m 0 = S) (p q : Int) (hp : pr.getD m 0 = p) (hq : pr.getD S 0 = q) : crossB pr sd m = decide (q ≠ p) := by
  unfold crossB
  rw [h, Int.toNat_natCast, hp, hq, decide_eq_decide]
  exact ⟨fun h => h.2, fun h => ⟨by omega, h⟩⟩
theorem zero73 (w : World) : (zeroValue 73).run Try.prog w = .ok (.pointer none) w := by
  have h : (Try.prog.info? 73).bind (·.zero) = some (.pointer none) := by kernel_rfl
  cases hi : Try.prog.info? 73 with
  | none => rw [hi] at h; simp at h
  | some i =>
    rw [hi] at h
    simp at h
    simp [zeroValue, typeInfo, hi, h]
theorem wf_small (p : Nat) (h : p ≤ 1000000) : (Lit.int .i64 (p : Int)).wf = true := WalkArith.wf_i64 ⟨by omega, by omega⟩
end Go.Proofs.Qxb6603214a
