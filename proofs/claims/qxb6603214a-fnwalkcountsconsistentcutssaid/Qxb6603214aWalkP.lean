import Derived.Test.Qxb6603214aLamp
/-! The walk of the cuts, plainly: a machine that is stepped. -/
namespace Go.Proofs.Qxb6603214a.WalkP

/-- One event that the walk added (cutWalkStep). -/
structure PE where
  proc : Int
  below : Int
  receives : Int
  receivers : Int
  next : Int

/-- What the walk knows of the run and of its group. -/
structure Ctx where
  g : Nat
  grp : List Int
  ev : List Int
  ls : List Int
  sd : List Int
  pr : List Int
  sq : List Int
  loc : List Int

/-- The state: the path (its top first), 'held', 'receivers', 'count', 'steps'. -/
structure WS where
  path : List PE
  held : List Int
  recvs : List Int
  count : Nat
  steps : Nat

/-- The process at place j of the group; how many events it has. -/
def Ctx.p (c : Ctx) (j : Nat) : Nat := (c.grp.getD j 0).toNat
def Ctx.evs (c : Ctx) (j : Nat) : Int := c.ev.getD (c.p j) 0
/-- The index of the next event of the process at place j. -/
def Ctx.at (c : Ctx) (held : List Int) (j : Nat) : Nat := (c.ls.getD (c.p j) 0 + held.getD j 0).toNat
/-- Does the event i, of process p, receive another process's message? -/
def Ctx.cross (c : Ctx) (p i : Nat) : Bool := decide (0 ≤ c.sd.getD i 0 ∧ c.pr.getD (c.sd.getD i 0).toNat 0 ≠ p)
/-- The place of the sender of the event i; the seq of the send. -/
def Ctx.from (c : Ctx) (i : Nat) : Int := c.loc.getD (c.pr.getD (c.sd.getD i 0).toNat 0).toNat 0
def Ctx.sent (c : Ctx) (i : Nat) : Int := c.sq.getD (c.sd.getD i 0).toNat 0

/-- Is the next event of j held up by a send that is not in the cut? -/
def Ctx.blocked (c : Ctx) (held : List Int) (j : Nat) : Bool :=
  c.cross (c.p j) (c.at held j) && decide (held.getD (c.from (c.at held j)).toNat 0 < c.sent (c.at held j))
/-- Whose last event in the cut does it receive? (-1: nobody's) -/
def Ctx.receives (c : Ctx) (held : List Int) (j : Nat) : Int :=
  if c.cross (c.p j) (c.at held j) = true ∧ c.sent (c.at held j) = held.getD (c.from (c.at held j)).toNat 0 then c.from (c.at held j) else -1

/-- The search for 'below', from place k - 1 down: what it finds, and how many looks it takes. -/
def below (held recvs : List Int) : Nat → Int × Nat
  | 0 => (-1, 0)
  | k + 1 => if 0 < held.getD k 0 ∧ recvs.getD k 0 = 0 then ((k : Int), 1) else ((below held recvs k).1, (below held recvs k).2 + 1)

def pushHeld (held : List Int) (j : Nat) : List Int := held.set j (held.getD j 0 + 1)
def pushRecvs (recvs : List Int) (j : Nat) (r : Int) : List Int :=
  if 0 ≤ r then (recvs.set j 0).set r.toNat ((recvs.set j 0).getD r.toNat 0 + 1) else recvs.set j 0
def popHeld (held : List Int) (e : PE) : List Int := if 0 ≤ e.proc then held.set e.proc.toNat (held.getD e.proc.toNat 0 - 1) else held
def popRecvs (recvs : List Int) (e : PE) : List Int :=
  if 0 ≤ e.proc then
    (if 0 ≤ e.receives then (recvs.set e.proc.toNat e.receivers).set e.receives.toNat ((recvs.set e.proc.toNat e.receivers).getD e.receives.toNat 0 - 1) else recvs.set e.proc.toNat e.receivers)
  else recvs

def PE.bump (e : PE) : PE := { e with next := e.next + 1 }

/-- Does the look at j, from the top e, add an event? -/
def Ctx.adds (c : Ctx) (held : List Int) (e : PE) (j : Nat) : Bool :=
  !(held.getD j 0 == c.evs j) && !(c.blocked held j) && !(decide ((j : Int) < e.proc) && !(e.proc == c.receives held j))

/-- The new top. -/
def Ctx.child (c : Ctx) (held recvs : List Int) (j : Nat) : PE :=
  { proc := j, below := (below (pushHeld held j) (pushRecvs recvs j (c.receives held j)) j).1, receives := c.receives held j, receivers := recvs.getD j 0, next := max (below (pushHeld held j) (pushRecvs recvs j (c.receives held j)) j).1 0 }

/-- One round of the loop. -/
def nxt (c : Ctx) (s : WS) : WS :=
  match s.path with
  | [] => s
  | e :: rest =>
    if e.next = c.g then { s with path := rest, held := popHeld s.held e, recvs := popRecvs s.recvs e }
    else if c.adds s.held e e.next.toNat = true then
      { path := c.child s.held s.recvs e.next.toNat :: e.bump :: rest, held := pushHeld s.held e.next.toNat, recvs := pushRecvs s.recvs e.next.toNat (c.receives s.held e.next.toNat),
        count := s.count + 1, steps := s.steps + 1 + (below (pushHeld s.held e.next.toNat) (pushRecvs s.recvs e.next.toNat (c.receives s.held e.next.toNat)) e.next.toNat).2 }
    else { s with path := e.bump :: rest, steps := s.steps + 1 }

def root : PE := { proc := -1, below := -1, receives := -1, receivers := 0, next := 0 }
def init (c : Ctx) : WS := { path := [root], held := List.replicate c.g 0, recvs := List.replicate c.g 0, count := 1, steps := 0 }

/-- The state after k rounds. -/
def st (c : Ctx) : Nat → WS
  | 0 => init c
  | k + 1 => nxt c (st c k)

/-- Is the next round a look? -/
def looks (c : Ctx) (s : WS) : Prop := ∃ e rest, s.path = e :: rest ∧ e.next ≠ c.g

theorem below_lt (held recvs : List Int) (k : Nat) : -1 ≤ (below held recvs k).1 ∧ (below held recvs k).1 < k ∧ (below held recvs k).2 ≤ k := by
  induction k with
  | zero => simp [below]
  | succ k ih =>
    unfold below
    split
    · simp only; omega
    · simp only; omega

theorem getD_set (t : List Int) (i j : Nat) (v : Int) (hi : i < t.length) : (t.set i v).getD j 0 = if i = j then v else t.getD j 0 := Lamp.getD_set t i j v hi

theorem nxt_steps (c : Ctx) (s : WS) : s.steps ≤ (nxt c s).steps := by
  unfold nxt
  split
  · omega
  · split
    · simp
    · split <;> simp only <;> omega

theorem st_mono (c : Ctx) (k d : Nat) : (st c k).steps ≤ (st c (k + d)).steps := by
  induction d with
  | zero => simp
  | succ d ih => exact Nat.le_trans ih (nxt_steps c _)

theorem look_steps (c : Ctx) (s : WS) (h : looks c s) : s.steps + 1 ≤ (nxt c s).steps := by
  obtain ⟨e, rest, hp, hn⟩ := h
  unfold nxt
  rw [hp]
  simp only [hn, if_false]
  split <;> simp only <;> omega

/-- What always holds of the path's elements. -/
structure OkE (g : Nat) (e : PE) : Prop where
  n0 : 0 ≤ e.next
  n1 : e.next ≤ g
  b0 : -1 ≤ e.below
  b1 : e.below < g
  p0 : -1 ≤ e.proc
  p1 : e.proc < g
  bn : max e.below 0 ≤ e.next
  r0 : -1 ≤ e.receives
  r1 : e.receives < g

theorem OkE.bump {g : Nat} {e : PE} (h : OkE g e) (hn : e.next ≠ g) : OkE g e.bump := by
  obtain ⟨a, b, c, d, p, q, r, s, t⟩ := h
  exact ⟨by simp [PE.bump]; omega, by simp [PE.bump]; omega, c, d, p, q, by simp [PE.bump]; omega, s, t⟩

/-- The context fits: places in the group lie in the group. -/
structure Ctx.Ok (c : Ctx) : Prop where
  pos : 0 < c.g
  loc0 : ∀ q, 0 ≤ c.loc.getD q 0
  loc1 : ∀ q, c.loc.getD q 0 < c.g

theorem receives_bd {c : Ctx} (hc : c.Ok) (held : List Int) (j : Nat) : -1 ≤ c.receives held j ∧ c.receives held j < c.g := by
  unfold Ctx.receives Ctx.from
  split
  · have := hc.loc0 (c.pr.getD (c.sd.getD (c.at held j) 0).toNat 0).toNat
    have := hc.loc1 (c.pr.getD (c.sd.getD (c.at held j) 0).toNat 0).toNat
    omega
  · have := hc.pos
    omega

theorem child_ok {c : Ctx} (hc : c.Ok) (held recvs : List Int) (j : Nat) (hj : j < c.g) : OkE c.g (c.child held recvs j) := by
  have hb := below_lt (pushHeld held j) (pushRecvs recvs j (c.receives held j)) j
  have hr := receives_bd hc held j
  refine ⟨?_, ?_, hb.1, ?_, ?_, ?_, ?_, hr.1, hr.2⟩ <;> simp only [Ctx.child] <;> omega

/-- How many events of place j lie on the path. -/
def onPath (j : Nat) : List PE → Nat
  | [] => 0
  | e :: rest => (if e.proc = j then 1 else 0) + onPath j rest

theorem onPath_bump (j : Nat) (e : PE) (rest : List PE) : onPath j (e.bump :: rest) = onPath j (e :: rest) := rfl

/-- The path's own sums: what its elements have looked. -/
def looked : List PE → Int
  | [] => 0
  | e :: rest => (e.next - max e.below 0) + looked rest
def owed (g : Nat) : List PE → Int
  | [] => 0
  | e :: rest => (e.next + g) + owed g rest

structure Inv (c : Ctx) (s : WS) : Prop where
  hlen : s.held.length = c.g
  rlen : s.recvs.length = c.g
  okp : ∀ e ∈ s.path, OkE c.g e
  held : ∀ j, j < c.g → s.held.getD j 0 = onPath j s.path
  cnt : s.path.length ≤ s.count
  one : 1 ≤ s.count
  low : (s.count : Int) - s.path.length + looked s.path ≤ s.steps
  high : (s.steps : Int) ≤ 2 * c.g * ((s.count : Int) - s.path.length) + owed c.g s.path

theorem inv_init {c : Ctx} (hc : c.Ok) : Inv c (init c) where
  hlen := by simp [init]
  rlen := by simp [init]
  okp e he := by
    simp [init] at he
    subst he
    have := hc.pos
    refine ⟨?_, ?_, ?_, ?_, ?_, ?_, ?_, ?_, ?_⟩ <;> simp only [root] <;> omega
  held j hj := by
    simp only [init]
    rw [Lamp.getD_replicate]
    simp [onPath, root]
  cnt := by simp [init]
  one := by simp [init]
  low := by simp only [init, looked, root, List.length_singleton]; omega
  high := by simp [init, owed, root]

theorem mul_step (G : Int) {a b : Int} (h : a = b + 1) : 2 * G * a = 2 * G * b + 2 * G := by
  subst h; rw [Int.mul_add, Int.mul_one]

theorem Inv.nxt {c : Ctx} (hc : c.Ok) {s : WS} (h : Inv c s) : Inv c (nxt c s) := by
  obtain ⟨path, held, recvs, count, steps⟩ := s
  obtain ⟨hlen, rlen, okp, hheld, hcnt, hone, hlow, hhigh⟩ := h
  simp only at hlen rlen okp hheld hcnt hone hlow hhigh
  cases path with
  | nil => exact ⟨hlen, rlen, okp, hheld, hcnt, hone, hlow, hhigh⟩
  | cons e rest =>
    have he := okp e (by simp)
    unfold WalkP.nxt
    simp only
    by_cases hn : e.next = c.g
    · -- the top is looked through
      rw [if_pos hn]
      have hpl : ∀ j, j < c.g → (popHeld held e).getD j 0 = onPath j rest := by
        intro j hj
        have h1 := hheld j hj
        unfold onPath at h1
        unfold popHeld
        split
        · rename_i hp
          have := he.p1
          rw [getD_set _ _ _ _ (by omega)]
          split
          · rename_i e2
            subst e2
            rw [h1, if_pos (by omega)]
            omega
          · rename_i e2
            rw [h1, if_neg (by omega)]
            omega
        · rename_i hp
          rw [h1, if_neg (by omega)]
          omega
      refine ⟨?_, ?_, fun x hx => okp x (by simp [hx]), hpl, ?_, hone, ?_, ?_⟩
      · simp only; unfold popHeld; split <;> simp [hlen]
      · simp only; unfold popRecvs; split
        · split <;> simp [rlen]
        · exact rlen
      · simp only [List.length_cons] at hcnt ⊢; omega
      · simp only [List.length_cons, looked] at hlow ⊢
        have := he.b1
        have := hc.pos
        omega
      · simp only [List.length_cons, owed] at hhigh ⊢
        rw [mul_step (c.g : Int) (b := (count : Int) - ((rest.length + 1 : Nat) : Int)) (by omega)]
        omega
    · rw [if_neg hn]
      have hj0 := he.n0
      have hj1 := he.n1
      have hjg : e.next.toNat < c.g := by omega
      split
      · -- an event is added
        have hb := below_lt (pushHeld held e.next.toNat) (pushRecvs recvs e.next.toNat (c.receives held e.next.toNat)) e.next.toNat
        refine ⟨?_, ?_, ?_, ?_, ?_, ?_, ?_, ?_⟩
        · simp [pushHeld, hlen]
        · simp only; unfold pushRecvs; split <;> simp [rlen]
        · intro x hx
          simp only [List.mem_cons] at hx
          rcases hx with rfl | rfl | hx
          · exact child_ok hc _ _ _ hjg
          · exact he.bump hn
          · exact okp x (by simp [hx])
        · intro j hj
          have h1 := hheld j hj
          simp only
          unfold onPath
          rw [onPath_bump]
          unfold pushHeld
          rw [getD_set _ _ _ _ (by omega)]
          by_cases e2 : e.next.toNat = j
          · subst e2
            rw [if_pos rfl, if_pos (by simp [Ctx.child]), h1]
            omega
          · rw [if_neg e2, if_neg (by simp [Ctx.child]; omega), h1]
            omega
        · simp only [List.length_cons] at hcnt ⊢; omega
        · simp only; omega
        · simp only [List.length_cons, looked, PE.bump, Ctx.child] at hlow ⊢
          omega
        · simp only [List.length_cons, owed, PE.bump, Ctx.child] at hhigh ⊢
          rw [show ((count + 1 : Nat) : Int) - ((rest.length + 1 + 1 : Nat) : Int) = (count : Int) - ((rest.length + 1 : Nat) : Int) by omega]
          omega
      · refine ⟨hlen, rlen, ?_, hheld, ?_, hone, ?_, ?_⟩
        · intro x hx
          simp only [List.mem_cons] at hx
          rcases hx with rfl | hx
          · exact he.bump hn
          · exact okp x (by simp [hx])
        · simpa using hcnt
        · simp only [List.length_cons, looked, PE.bump] at hlow ⊢
          omega
        · simp only [List.length_cons, owed, PE.bump] at hhigh ⊢
          omega

theorem inv_st {c : Ctx} (hc : c.Ok) (k : Nat) : Inv c (st c k) := by
  induction k with
  | zero => exact inv_init hc
  | succ k ih => exact ih.nxt hc

/-- At the end: 1 ≤ count ≤ steps ≤ 2 * count * g. -/
theorem end_bounds {c : Ctx} (hc : c.Ok) {k : Nat} (h : (st c k).path = []) : 1 ≤ (st c k).count ∧ (st c k).count ≤ (st c k).steps ∧ (st c k).steps ≤ 2 * c.g * (st c k).count := by
  have hi := inv_st hc k
  have h1 := hi.low
  have h2 := hi.high
  rw [h] at h1 h2
  simp only [List.length_nil, looked, owed] at h1 h2
  refine ⟨hi.one, by omega, ?_⟩
  have : ((st c k).steps : Int) ≤ ((2 * c.g * (st c k).count : Nat) : Int) := by
    rw [Int.natCast_mul, Int.natCast_mul]
    simpa using h2
  omega

/-- The last look's count of steps is the walk's. -/
theorem last_look {c : Ctx} (hc : c.Ok) (k : Nat) : (∃ k', k' < k ∧ looks c (st c k') ∧ (st c k).steps = (st c k').steps + 1) ∨ looks c (st c k) := by
  induction k with
  | zero =>
    right
    exact ⟨root, [], rfl, by simp [root]; have := hc.pos; omega⟩
  | succ k ih =>
    have hi := inv_st hc k
    have hi' := inv_st hc (k + 1)
    by_cases hl : looks c (st c k)
    · obtain ⟨e, rest, hp, hn⟩ := hl
      have hst : st c (k + 1) = nxt c (st c k) := rfl
      have he := hi.okp e (by rw [hp]; simp)
      by_cases ha : c.adds (st c k).held e e.next.toNat = true
      · right
        refine ⟨c.child (st c k).held (st c k).recvs e.next.toNat, e.bump :: rest, ?_, ?_⟩
        · rw [hst]; unfold nxt; rw [hp]; simp only [hn, if_false, ha, if_true]
        · have hb := below_lt (pushHeld (st c k).held e.next.toNat) (pushRecvs (st c k).recvs e.next.toNat (c.receives (st c k).held e.next.toNat)) e.next.toNat
          have := he.n1
          have := he.n0
          simp only [Ctx.child]
          omega
      · left
        refine ⟨k, by omega, ⟨e, rest, hp, hn⟩, ?_⟩
        rw [hst]; unfold nxt; rw [hp]; simp only [hn, if_false, ha]
        rfl
    · rcases ih with ⟨k', h1, h2, h3⟩ | h
      · left
        refine ⟨k', by omega, h2, ?_⟩
        rw [← h3]
        show (nxt c (st c k)).steps = _
        cases hp : (st c k).path with
        | nil => unfold nxt; rw [hp]
        | cons e rest =>
          have hn : e.next = c.g := by
            by_cases hn : e.next = c.g
            · exact hn
            · exact absurd ⟨e, rest, hp, hn⟩ hl
          unfold nxt; rw [hp]; simp only [hn, if_true]
      · exact absurd h hl
end Go.Proofs.Qxb6603214a.WalkP
