import Derived.Test.Qxb6603214aCMem
namespace Go.Proofs.Qxb6603214a
open Go.RowKit Go.Maps
set_option linter.unusedVariables false

/-! ### What newCutCounter gathers, plainly -/
/-- Does event k receive another process's message? -/
def crossB (pr sd : List Int) (k : Nat) : Bool := decide (0 ≤ sd.getD k 0 ∧ pr.getD (sd.getD k 0).toNat 0 ≠ pr.getD k 0)
/-- The sender's process. -/
def sendP (pr sd : List Int) (k : Nat) : Int := pr.getD (sd.getD k 0).toNat 0

structure LS where
  tk : Int → List Int
  pres : Int → Int → Bool
  rc : Int → Int → List Int
  sn : Int → Int → List Int
  sz : Nat

def ls0 : LS := { tk := fun _ => [], pres := fun _ _ => false, rc := fun _ _ => [], sn := fun _ _ => [], sz := 0 }
/-- A new link between p and q. -/
def LS.newLink (s : LS) (p q : Int) : LS :=
  { s with tk := setI (setI s.tk p (s.tk p ++ [q])) q (setI s.tk p (s.tk p ++ [q]) q ++ [p]), pres := setII s.pres p q true, sz := s.sz + 1 }
def LS.link (s : LS) (p q : Int) : LS := if s.pres p q = true then s else s.newLink p q
/-- Does the send 'x' raise the link? -/
def LS.raises (s : LS) (p q x : Int) : Bool := (s.sn p q).isEmpty || decide ((s.sn p q).getD ((s.sn p q).length - 1) 0 < x)
def LS.note (s : LS) (p q r x : Int) : LS :=
  if s.raises p q x = true then { s with rc := setII s.rc p q (s.rc p q ++ [r]), sn := setII s.sn p q (s.sn p q ++ [x]) } else s
def lsStep (pr sd sq : List Int) (k : Nat) (s : LS) : LS :=
  if crossB pr sd k = true then (s.link (pr.getD k 0) (sendP pr sd k)).note (pr.getD k 0) (sendP pr sd k) (sq.getD k 0) (sq.getD (sd.getD k 0).toNat 0) else s
def lsAt (pr sd sq : List Int) : Nat → LS
  | 0 => ls0
  | k + 1 => lsStep pr sd sq k (lsAt pr sd sq k)

structure LSb (k : Nat) (s : LS) : Prop where
  tkl : ∀ p, (s.tk p).length ≤ 2 * k
  rcl : ∀ p q, (s.rc p q).length ≤ k
  snl : ∀ p q, (s.sn p q).length ≤ k
  szl : s.sz ≤ k
  none : ∀ p q, s.pres p q = false → s.rc p q = [] ∧ s.sn p q = []

theorem LSb.link {k : Nat} {s : LS} (h : LSb k s) (p q : Int) : (∀ r, ((s.link p q).tk r).length ≤ 2 * k + 2) ∧ (s.link p q).rc = s.rc ∧ (s.link p q).sn = s.sn ∧ (s.link p q).sz ≤ k + 1 ∧ (s.link p q).pres p q = true ∧ (∀ r t, (s.link p q).pres r t = false → s.pres r t = false) := by
  unfold LS.link
  split
  · rename_i hp
    exact ⟨fun r => by have := h.tkl r; omega, rfl, rfl, by have := h.szl; omega, hp, fun r t hh => hh⟩
  · refine ⟨fun r => ?_, rfl, rfl, by have := h.szl; simp [LS.newLink]; omega, by simp [LS.newLink, setII], fun r t hh => ?_⟩
    · have h1 := h.tkl r
      have h2 := h.tkl p
      have h3 := h.tkl q
      simp only [LS.newLink, setI]
      split
      · rename_i e; subst e
        split
        · simp; omega
        · simp; omega
      · split
        · simp; omega
        · omega
    · simp only [LS.newLink, setII] at hh
      split at hh
      · cases hh
      · exact hh

theorem lsb_at (pr sd sq : List Int) (k : Nat) : LSb k (lsAt pr sd sq k) := by
  induction k with
  | zero => exact ⟨fun p => by simp [lsAt, ls0], fun p q => by simp [lsAt, ls0], fun p q => by simp [lsAt, ls0], by simp [lsAt, ls0], fun p q _ => ⟨rfl, rfl⟩⟩
  | succ k ih =>
    show LSb (k + 1) (lsStep pr sd sq k (lsAt pr sd sq k))
    unfold lsStep
    split
    · obtain ⟨l1, l2, l3, l4, l5, l6⟩ := ih.link (pr.getD k 0) (sendP pr sd k)
      generalize hs1 : (lsAt pr sd sq k).link (pr.getD k 0) (sendP pr sd k) = s1 at *
      unfold LS.note
      split
      · refine ⟨fun r => by have := l1 r; simp only; omega, fun r t => ?_, fun r t => ?_, l4, fun r t hh => ?_⟩
        · have h1 := ih.rcl r t
          have h2 := ih.rcl (pr.getD k 0) (sendP pr sd k)
          simp only [setII, l2]
          split
          · rw [List.length_append, List.length_singleton]; omega
          · omega
        · have h1 := ih.snl r t
          have h2 := ih.snl (pr.getD k 0) (sendP pr sd k)
          simp only [setII, l3]
          split
          · rw [List.length_append, List.length_singleton]; omega
          · omega
        · simp only at hh
          have h0 := ih.none r t (l6 r t hh)
          have hne : ¬ (r = pr.getD k 0 ∧ t = sendP pr sd k) := by
            rintro ⟨rfl, rfl⟩
            rw [l5] at hh; cases hh
          simp only [setII, l2, l3]
          rw [if_neg hne, if_neg hne]
          exact h0
      · exact ⟨fun r => by have := l1 r; omega, fun r t => by rw [l2]; have := ih.rcl r t; omega, fun r t => by rw [l3]; have := ih.snl r t; omega, l4, fun r t hh => by rw [l2, l3]; exact ih.none r t (l6 r t hh)⟩
    · exact ⟨fun r => by have := ih.tkl r; omega, fun r t => by have := ih.rcl r t; omega, fun r t => by have := ih.snl r t; omega, by have := ih.szl; omega, ih.none⟩

/-! ### The memory at its start -/
theorem CMem.start {w wr : World} {C Ge Mb T np : Nat} {rp : Value} (hC : Arr wr C 72 [rp, .slice (some ⟨Ge, 0, none⟩) np np, .map (some Mb), .slice (some ⟨T, 0, none⟩) np np]) (hE : IArr wr Ge (List.replicate np 0)) (hM : VMap wr 74 Mb (.pointer none) 0 (fun _ => .pointer none)) (hT : Arr wr T 23 (List.replicate np (.slice none 0 0)))
    (hne : Ge ≠ C ∧ Mb ≠ C ∧ T ≠ C ∧ Mb ≠ Ge ∧ T ≠ Ge ∧ T ≠ Mb) (hlo : w.heap.size ≤ C ∧ w.heap.size ≤ Ge ∧ w.heap.size ≤ Mb ∧ w.heap.size ≤ T) (hb : Below w.heap.size w wr) :
    ∃ tg, CMem [] w wr C Ge Mb T np 0 rp (List.replicate np 0) (fun _ => .pointer none) (fun _ => .slice none 0 0) ls0.tk ls0.pres ls0.rc ls0.sn tg := by
  refine ⟨fun b => if b = C then [0] else if b = Ge then [1] else if b = Mb then [2] else [3], ?_⟩
  obtain ⟨n1, n2, n3, n4, n5, n6⟩ := hne
  exact {
    cc := fun _ => hC
    evs := fun _ => hE
    map := fun _ => hM
    tks := fun _ => by
      have e : (List.range np).map (fun (i : Nat) => (Value.slice none 0 0)) = List.replicate np (.slice none 0 0) := by
        apply List.ext_getElem (by rw [List.length_map, List.length_range, List.length_replicate])
        intro i h1 h2
        rw [List.getElem_map, List.getElem_replicate]
      rw [e]; exact hT
    rows := fun p _ => IOwn.nil _
    rtag := fun p b hb => (by cases hb)
    absent := fun p q _ _ _ => rfl
    link := fun p q _ _ hp => by simp [ls0] at hp
    tags := by refine ⟨by simp, by simp [n1], by simp [n2, n4], by simp [n3, n5, n6]⟩
    lts := ⟨hC.lt, hE.lt, hM.lt, hT.lt⟩
    los := hlo
    below := hb }

/-- 'cc.events[p] = x'. -/
theorem CMem.ev {w wr : World} {C Ge Mb T np sz : Nat} {rp : Value} {ev : List Int} {f : Lit → Value} {tv : Int → Value} {tk : Int → List Int} {pres : Int → Int → Bool} {rc sn : Int → Int → List Int} {tg : Nat → List Int}
    (h : CMem [] w wr C Ge Mb T np sz rp ev f tv tk pres rc sn tg) (p : Nat) (x : Int) : CMem [] w (wr.setCell ⟨Ge, p, none⟩ (.int .i64 x)) C Ge Mb T np sz rp (ev.set p x) f tv tk pres rc sn tg := by
  have h1 := h.setCell (a := ⟨Ge, p, none⟩) [1] h.lts.2.1 h.los.2.1 h.tags.2.1 (.int .i64 x)
  exact {
    cc := fun _ => h1.cc (by simp)
    evs := fun _ => (h.evs (by simp)).set p x
    map := fun _ => h1.map (by simp)
    tks := fun _ => h1.tks (by simp)
    rows := fun r _ => h1.rows r (by simp)
    rtag := h1.rtag
    absent := h1.absent
    link := fun r s hr hs hpr => by
      obtain ⟨b, vr, vs, hf, hl⟩ := h1.link r s hr hs hpr
      exact ⟨b, vr, vs, hf, { cells := fun _ => hl.cells (by simp), tag := hl.tag, lt := hl.lt, lo := hl.lo, rrow := fun _ => hl.rrow (by simp), srow := fun _ => hl.srow (by simp), rtag := hl.rtag, stag := hl.stag }⟩
    tags := h1.tags
    lts := h1.lts
    los := h1.los
    below := h1.below }
end Go.Proofs.Qxb6603214a
