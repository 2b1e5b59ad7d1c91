import Derived.Test.Qxb6603214aW3
import Derived.Test.Qxb6603214aRS2
import Derived.Test.Qxb6603214aOwn
import Derived.Deep.DeepCutAuto
import Derived.BigRegion
namespace Go.Proofs.Qxb6603214a
open Go.RowKit Go.Maps WalkP
set_option linter.unusedVariables false

/-- One receive of another process's message: its place, its position, the sender's place, the send's position. -/
structure Qd where
  a : Int
  b : Int
  q : Int
  d : Int
def mkQ (grp ls pr sd zs : List Int) (j i : Nat) : Qd :=
  { a := j, b := i - ls.getD (grp.getD j 0).toNat 0 + 1, q := zs.getD (pr.getD (sd.getD i 0).toNat 0).toNat 0, d := sd.getD i 0 - ls.getD (pr.getD (sd.getD i 0).toNat 0).toNat 0 + 1 }
/-- Is the event i one of place j that receives another process's message? -/
def CrossI (grp ls pr sd : List Int) (j i : Nat) : Prop := ls.getD (grp.getD j 0).toNat 0 ≤ i ∧ (i : Int) < ls.getD ((grp.getD j 0).toNat + 1) 0 ∧ 0 ≤ sd.getD i 0 ∧ pr.getD (sd.getD i 0).toNat 0 ≠ grp.getD j 0
/-- The list holds those among B. -/
structure QSpec (grp ls pr sd zs : List Int) (qs : List Qd) (B : Nat → Nat → Prop) : Prop where
  only : ∀ q, q ∈ qs → ∃ j i, B j i ∧ CrossI grp ls pr sd j i ∧ q = mkQ grp ls pr sd zs j i
  all : ∀ j i, B j i → CrossI grp ls pr sd j i → mkQ grp ls pr sd zs j i ∈ qs
theorem QSpec.more {grp ls pr sd zs : List Int} {qs : List Qd} {B B' : Nat → Nat → Prop} (h : QSpec grp ls pr sd zs qs B) (h1 : ∀ j i, B j i → B' j i) (h2 : ∀ j i, B' j i → CrossI grp ls pr sd j i → B j i) : QSpec grp ls pr sd zs qs B' :=
  ⟨fun q hq => by obtain ⟨j, i, a, b⟩ := h.only q hq; exact ⟨j, i, h1 j i a, b⟩, fun j i a b => h.all j i (h2 j i a b) b⟩
theorem QSpec.add {grp ls pr sd zs : List Int} {qs : List Qd} {B B' : Nat → Nat → Prop} (h : QSpec grp ls pr sd zs qs B) (j0 i0 : Nat) (hc : CrossI grp ls pr sd j0 i0) (h0 : B' j0 i0) (h1 : ∀ j i, B j i → B' j i) (h2 : ∀ j i, B' j i → B j i ∨ (j = j0 ∧ i = i0)) : QSpec grp ls pr sd zs (qs ++ [mkQ grp ls pr sd zs j0 i0]) B' := by
  refine ⟨fun q hq => ?_, fun j i a b => ?_⟩
  · rw [List.mem_append, List.mem_singleton] at hq
    rcases hq with hq | rfl
    · obtain ⟨j, i, a, b⟩ := h.only q hq; exact ⟨j, i, h1 j i a, b⟩
    · exact ⟨j0, i0, h0, hc, rfl⟩
  · rw [List.mem_append, List.mem_singleton]
    rcases h2 j i a with a | ⟨rfl, rfl⟩
    · exact .inl (h.all j i a b)
    · exact .inr rfl

/-! ### Four slices of the call's own -/
def Apart (v v' : Value) : Prop := ∀ k, v.ownBlock = some k → v'.ownBlock = some k → False
structure Q4 (w0 wr : World) (v1 v2 v3 v4 : Value) (z1 z2 z3 z4 : List Int) : Prop where
  o1 : IOwn wr v1 z1
  o2 : IOwn wr v2 z2
  o3 : IOwn wr v3 z3
  o4 : IOwn wr v4 z4
  a12 : Apart v1 v2
  a13 : Apart v1 v3
  a14 : Apart v1 v4
  a23 : Apart v2 v3
  a24 : Apart v2 v4
  a34 : Apart v3 v4
  l1 : ∀ k, v1.ownBlock = some k → w0.heap.size ≤ k
  l2 : ∀ k, v2.ownBlock = some k → w0.heap.size ≤ k
  l3 : ∀ k, v3.ownBlock = some k → w0.heap.size ≤ k
  l4 : ∀ k, v4.ownBlock = some k → w0.heap.size ≤ k
  bel : Below w0.heap.size w0 wr
theorem Apart.symm {v v' : Value} (h : Apart v v') : Apart v' v := fun k h1 h2 => h k h2 h1
theorem Q4.rot {w0 wr : World} {v1 v2 v3 v4 : Value} {z1 z2 z3 z4 : List Int} (h : Q4 w0 wr v1 v2 v3 v4 z1 z2 z3 z4) : Q4 w0 wr v2 v3 v4 v1 z2 z3 z4 z1 :=
  ⟨h.o2, h.o3, h.o4, h.o1, h.a23, h.a24, h.a12.symm, h.a34, h.a13.symm, h.a14.symm, h.l2, h.l3, h.l4, h.l1, h.bel⟩
theorem Q4.start (w : World) : Q4 w w (.slice none 0 0) (.slice none 0 0) (.slice none 0 0) (.slice none 0 0) [] [] [] [] :=
  ⟨IOwn.nil w, IOwn.nil w, IOwn.nil w, IOwn.nil w, fun k h => by simp [Value.ownBlock] at h, fun k h => by simp [Value.ownBlock] at h, fun k h => by simp [Value.ownBlock] at h, fun k h => by simp [Value.ownBlock] at h, fun k h => by simp [Value.ownBlock] at h, fun k h => by simp [Value.ownBlock] at h,
    fun k h => by simp [Value.ownBlock] at h, fun k h => by simp [Value.ownBlock] at h, fun k h => by simp [Value.ownBlock] at h, fun k h => by simp [Value.ownBlock] at h, Below.refl _ _⟩
theorem Q4.push {w0 wr w' : World} {v1 v2 v3 v4 : Value} {z1 z2 z3 z4 : List Int} (h : Q4 w0 wr v1 v2 v3 v4 z1 z2 z3 z4) {g cap n : Nat} {y : Int} {o : Obj} (hr : IRow w' g cap (z1 ++ [y])) (hg : (wr.alloc o).grownBy w' v1.ownBlock) (hl : v1.ownBlock = some g ∨ g = (wr.alloc o).heap.size) (hn : n = z1.length) :
    Q4 w0 w' (.slice (some ⟨g, 0, none⟩) (n + 1) cap) v2 v3 v4 (z1 ++ [y]) z2 z3 z4 := by
  subst hn
  have hk : ∀ {v : Value} {z : List Int}, Apart v1 v → IOwn wr v z → IOwn w' v z := by
    intro v z ha ho
    refine (ho.alloc o).kept hg ?_
    cases hv : v.ownBlock with
    | none => exact .inl rfl
    | some k => right; intro e; exact ha k e.symm hv
  have hap : ∀ {v : Value} {z : List Int}, Apart v1 v → IOwn wr v z → Apart (.slice (some ⟨g, 0, none⟩) (z1.length + 1) cap) v := by
    intro v z ha ho k h1 h2
    simp only [Value.ownBlock, Option.some.injEq] at h1
    subst h1
    rcases hl with e | e
    · exact ha g e h2
    · have := ho.lt g h2
      rw [World.size_alloc] at e
      omega
  have hsz := h.bel.size
  refine ⟨?_, hk h.a12 h.o2, hk h.a13 h.o3, hk h.a14 h.o4, hap h.a12 h.o2, hap h.a13 h.o3, hap h.a14 h.o4, h.a23, h.a24, h.a34, ?_, h.l2, h.l3, h.l4, ?_⟩
  · have := hr; unfold IRow at this; simpa using this
  · intro k hk2
    simp only [Value.ownBlock, Option.some.injEq] at hk2
    subst hk2
    rcases hl with e | e
    · exact h.l1 g e
    · rw [World.size_alloc] at e; omega
  · exact (h.bel.alloc hsz o).grown hg (by rw [World.size_alloc]; omega) h.l1

theorem rsum_pf (m : Nat → Nat) (j : Nat) : rsum m j + 1 ≤ pf m 0 j := by
  induction j with
  | zero => simp [rsum, pf]
  | succ j ih =>
    rw [pf_snoc', Nat.zero_add, Nat.mul_add, Nat.mul_one]
    have h1 : 1 * m j ≤ pf m 0 j * m j := Nat.mul_le_mul_right _ (pf_pos m 0 j)
    rw [Nat.one_mul] at h1
    have h2 : rsum m (j + 1) = rsum m j + m j := rfl
    omega
theorem pf_mono' (fr : Nat → Nat) (j k d : Nat) : pf fr j k ≤ pf fr j (k + d) := by
  induction d with
  | zero => exact Nat.le_refl _
  | succ d ih =>
    rw [show k + (d + 1) = (k + d) + 1 by omega, pf_snoc']
    exact Nat.le_trans ih (Nat.le_mul_of_pos_right _ (by omega))

/-- Are the first x receives in order, in the vector h? -/
def fineTo (qs : List Qd) (h : List Int) : Nat → Bool
  | 0 => true
  | x + 1 => fineTo qs h x && !(decide ((qs.map Qd.b).getD x 0 ≤ h.getD ((qs.map Qd.a).getD x 0).toNat 0) && decide (h.getD ((qs.map Qd.q).getD x 0).toNat 0 < (qs.map Qd.d).getD x 0))
theorem fineTo_no {qs : List Qd} {h : List Int} {x : Nat} (e : fineTo qs h x = false) (d : Nat) : fineTo qs h (x + d) = false := by
  induction d with
  | zero => exact e
  | succ d ih => rw [← Nat.add_assoc]; unfold fineTo; rw [ih]; rfl
/-- How many of the first 'it' vectors are fine. -/
def fineCnt (qs : List Qd) (m : Nat → Nat) (g : Nat) : Nat → Nat
  | 0 => 0
  | it + 1 => fineCnt qs m g it + (if fineTo qs (dig m 0 g it) qs.length = true then 1 else 0)
theorem fineCnt_le (qs : List Qd) (m : Nat → Nat) (g it : Nat) : fineCnt qs m g it ≤ it := by
  induction it with
  | zero => exact Nat.le_refl _
  | succ it ih => unfold fineCnt; split <;> omega
theorem getD_map {f : Qd → Int} {qs : List Qd} {x : Nat} (hx : x < qs.length) : (qs.map f).getD x 0 = f qs[x] := by
  rw [List.getD_eq_getElem?_getD, List.getElem?_map, List.getElem?_eq_getElem hx]; rfl
theorem map_snoc (f : Qd → Int) (qs : List Qd) (q : Qd) : (qs ++ [q]).map f = qs.map f ++ [f q] := by simp

/-- The vector on its way to the next. -/
def mid (j : Nat) (t : List Int) : List Int := List.replicate j 0 ++ t.drop j
theorem mid_len (j : Nat) (t : List Int) (h : j ≤ t.length) : (mid j t).length = t.length := by unfold mid; simp; omega
theorem mid_at (j : Nat) (t : List Int) : (mid j t).getD j 0 = t.getD j 0 := by
  unfold mid
  rw [List.getD_eq_getElem?_getD, List.getD_eq_getElem?_getD, List.getElem?_append_right (by simp)]
  simp
theorem drop_cons (t : List Int) (j : Nat) (h : j < t.length) : t.drop j = t.getD j 0 :: t.drop (j + 1) := by
  rw [List.drop_eq_getElem_cons h]
  congr 1
  rw [List.getD_eq_getElem?_getD, List.getElem?_eq_getElem h]; rfl
theorem mid_set (j : Nat) (t : List Int) (h : j < t.length) : (mid j t).set j 0 = mid (j + 1) t := by
  unfold mid
  rw [drop_cons t j h, List.set_append_right _ _ (by simp)]
  simp [List.replicate_succ', List.append_assoc]
theorem inc_mid {m : Nat → Nat} (j : Nat) (t : List Int) (h : j < t.length) (hc : inc m 0 t = List.replicate j 0 ++ inc m j (t.drop j)) (hm : ¬ t.getD j 0 < m j) : inc m 0 t = List.replicate (j + 1) 0 ++ inc m (j + 1) (t.drop (j + 1)) := by
  have e : inc m j (t.getD j 0 :: t.drop (j + 1)) = 0 :: inc m (j + 1) (t.drop (j + 1)) := by
    show (if _ then _ else _) = _
    rw [if_neg hm]
  rw [hc, drop_cons t j h, e, List.replicate_succ', List.append_assoc]
  rfl
theorem inc_stop {m : Nat → Nat} (j : Nat) (t : List Int) (h : j < t.length) (hc : inc m 0 t = List.replicate j 0 ++ inc m j (t.drop j)) (hm : t.getD j 0 < m j) : (mid j t).set j (t.getD j 0 + 1) = inc m 0 t := by
  rw [hc]
  unfold mid
  rw [drop_cons t j h, List.set_append_right _ _ (by simp)]
  unfold inc
  rw [if_pos hm]
  simp
theorem inc_end {m : Nat → Nat} (t : List Int) (hc : inc m 0 t = List.replicate t.length 0 ++ inc m t.length (t.drop t.length)) : mid t.length t = inc m 0 t := by
  rw [hc]
  unfold mid
  simp [inc]

theorem dig_zero (m : Nat → Nat) (j n : Nat) : dig m j n 0 = List.replicate n 0 := by
  induction n generalizing j with
  | zero => rfl
  | succ n ih =>
    show ((0 % (m j + 1) : Nat) : Int) :: dig m (j + 1) n (0 / (m j + 1)) = _
    rw [Nat.zero_div, ih, Nat.zero_mod]
    rfl
theorem dig_nonneg (m : Nat → Nat) (j n it k : Nat) : 0 ≤ (dig m j n it).getD k 0 := by
  induction n generalizing j it k with
  | zero => simp [dig]
  | succ n ih =>
    unfold dig
    cases k with
    | zero => show (0 : Int) ≤ ((it % (m j + 1) : Nat) : Int); omega
    | succ k => simpa using ih (j + 1) (it / (m j + 1)) k

def CountSays (grp ls pr sd zs : List Int) (g : Nat) (m : Nat → Nat) (w : World) (e : Ending) (w' : World) : Prop :=
  Below w.heap.size w w' ∧ ∃ qs, QSpec grp ls pr sd zs qs (fun j _ => j < g) ∧ e = .returned (.int .i64 (fineCnt qs m g (pf m 0 g) : Nat))

/-- What a row's slice is, for reading. -/
theorem own_reads {w : World} {v : Value} {z : List Int} (h : IOwn w v z) : ∃ a c, v = .slice a z.length c ∧ Ints w a z := by
  rcases h.cases with ⟨rfl, rfl⟩ | ⟨g, cap, rfl, hr⟩
  · exact ⟨none, 0, rfl, Ints.nil _ _⟩
  · exact ⟨_, cap, rfl, hr.ints⟩

set_option maxHeartbeats 40000000 in
set_option maxRecDepth 20000 in
theorem countCuts_any (ag a2 a3 a4 al : Option Addr) (cg c2 c3 c4 cl : Nat) (grp ls pr sd zs : List Int) (np n g : Nat) (w : World) (hn : n ≤ 5000) (hnp : np ≤ 5000) (hgl : g ≤ 5000) (hgg : grp.length = g) (hgr : ∀ j, j < g → InR np (grp.getD j 0)) (hSh : Shape np n ls pr sd) (hpr : ∀ i, i < n → InR np (pr.getD i 0)) (hzl : zs.length = np)
    (hzb : ∀ p, p < np → zs.getD p 0 < g) (hcl : ClosedG g grp ls pr sd zs) (htot : pf (mOf grp ls) 0 g ≤ 4096)
    (h1 : Ints w ag grp) (h2 : Ints w a2 ls) (h3 : Ints w a3 pr) (h4 : Ints w a4 sd) (h5 : Ints w al zs) :
    Calls Try.prog 35 #[.slice ag g cg, .slice al np cl, .slice a2 ls.length c2, .slice a3 pr.length c3, .slice a4 sd.length c4, .int .i64 (pf (mOf grp ls) 0 g : Nat)] w (CountSays grp ls pr sd zs g (mOf grp ls) w) := by
  have HMG : Hid (∀ w, (Instr.makeSlice 23 (.int .i64 g) (.int .i64 g)).run Try.prog w = .ok (.slice (some ⟨w.heap.size, 0, none⟩) g g) (w.alloc (.cells (Array.replicate g (.int .i64 0)) 3))) := make_ints g (by omega)
  obtain ⟨b1, off1, hix1, hcell1⟩ := ints_open h1
  obtain ⟨b2, off2, hix2, hcell2⟩ := ints_open h2
  obtain ⟨b3, off3, hix3, hcell3⟩ := ints_open h3
  obtain ⟨b4, off4, hix4, hcell4⟩ := ints_open h4
  obtain ⟨b5, off5, hix5, hcell5⟩ := ints_open h5
  have hpl := hSh.plen
  have hsl := hSh.senders.len
  have hll := hSh.lanes.len
  rw [hgg] at hix1 hcell1
  rw [hll] at hix2 hcell2
  rw [hpl] at hix3 hcell3
  rw [hsl] at hix4 hcell4
  rw [hzl] at hix5 hcell5
  have HSh : Hid (Shape np n ls pr sd) := hSh
  have HC1 : Hid (∀ j, j < g → w.cell? ⟨b1, off1 + j, none⟩ = some (.int .i64 (grp.getD j 0))) := hcell1
  have HC2 : Hid (∀ j, j < np + 1 → w.cell? ⟨b2, off2 + j, none⟩ = some (.int .i64 (ls.getD j 0))) := hcell2
  have HC3 : Hid (∀ j, j < n → w.cell? ⟨b3, off3 + j, none⟩ = some (.int .i64 (pr.getD j 0))) := hcell3
  have HC4 : Hid (∀ j, j < n → w.cell? ⟨b4, off4 + j, none⟩ = some (.int .i64 (sd.getD j 0))) := hcell4
  have HC5 : Hid (∀ j, j < np → w.cell? ⟨b5, off5 + j, none⟩ = some (.int .i64 (zs.getD j 0))) := hcell5
  have HX1 : Hid (∀ (k : Nat) (w' : World), k < g → (Instr.indexAt 23 (.slice ag g cg) (.int .i64 k)).run Try.prog w' = .ok (.pointer (some ⟨b1, off1 + k, none⟩)) w') := fun k w' h => hix1 cg k w' h
  have HX2 : Hid (∀ (k : Nat) (w' : World), k < np + 1 → (Instr.indexAt 23 (.slice a2 (np + 1) c2) (.int .i64 k)).run Try.prog w' = .ok (.pointer (some ⟨b2, off2 + k, none⟩)) w') := fun k w' h => hix2 c2 k w' h
  have HX3 : Hid (∀ (k : Nat) (w' : World), k < n → (Instr.indexAt 23 (.slice a3 n c3) (.int .i64 k)).run Try.prog w' = .ok (.pointer (some ⟨b3, off3 + k, none⟩)) w') := fun k w' h => hix3 c3 k w' h
  have HX4 : Hid (∀ (k : Nat) (w' : World), k < n → (Instr.indexAt 23 (.slice a4 n c4) (.int .i64 k)).run Try.prog w' = .ok (.pointer (some ⟨b4, off4 + k, none⟩)) w') := fun k w' h => hix4 c4 k w' h
  have HX5 : Hid (∀ (k : Nat) (w' : World), k < np → (Instr.indexAt 23 (.slice al np cl) (.int .i64 k)).run Try.prog w' = .ok (.pointer (some ⟨b5, off5 + k, none⟩)) w') := fun k w' h => hix5 cl k w' h
  have HGR : Hid (∀ j, j < g → InR np (grp.getD j 0)) := hgr
  have HPR : Hid (∀ i, i < n → InR np (pr.getD i 0)) := hpr
  have HZB : Hid (∀ p, p < np → zs.getD p 0 < g) := hzb
  have HCL : Hid (ClosedG g grp ls pr sd zs) := hcl
  have HTot : Hid (pf (mOf grp ls) 0 g ≤ 4096) := htot
  rw [hpl, hsl, hll]
  clear hcell1 hcell2 hcell3 hcell4 hcell5 hix1 hix2 hix3 hix4 hix5 h1 h2 h3 h4 h5 hSh hpl hsl hll hgr hpr hgg hzl hzb hcl htot
  go_enter Try.func35, Try.ntmps35
  go_wp2
  go_loopw [14, 15, 16, 17, 18] (fun v14 v15 v16 v17 v18 wr => ∃ (j : Nat) (qs : List Qd), j ≤ g ∧ v18 = .int .i64 j ∧ Q4 w wr v14 v15 v16 v17 (qs.map Qd.a) (qs.map Qd.b) (qs.map Qd.q) (qs.map Qd.d) ∧ QSpec grp ls pr sd zs qs (fun j' _ => j' < j) ∧ qs.length ≤ rsum (mOf grp ls) j) (fun _ _ _ _ v18 _ => g - (intOf v18).toNat)
  case atStart => exact ⟨0, [], Nat.zero_le _, rfl, Q4.start w, ⟨fun q hq => by simp at hq, fun j i hj => by omega⟩, Nat.le_refl _⟩
  case round =>
    obtain ⟨j, qs, hj, rfl, hQ, hsp, hlen⟩ := hrel
    have HQ : Hid (Q4 w wr _ _ _ _ (qs.map Qd.a) (qs.map Qd.b) (qs.map Qd.q) (qs.map Qd.d)) := hQ
    have HSp : Hid (QSpec grp ls pr sd zs qs (fun j' _ => j' < j)) := hsp
    have HLen : Hid (qs.length ≤ rsum (mOf grp ls) j) := hlen
    have hbel := hQ.bel
    clear hQ hsp hlen
    by_cases hlt : j < g
    · have hgj := HGR.out j hlt
      obtain ⟨p, hp⟩ : ∃ p : Nat, grp.getD j 0 = p := ⟨(grp.getD j 0).toNat, by have := hgj.1; omega⟩
      have hpn : p < np := by have := hgj.2; omega
      have g1 : wr.cell? ⟨b1, off1 + j, none⟩ = some (.int .i64 p) := by rw [← hp]; exact cell_later hbel (HC1.out j hlt)
      have hx1 := fun w' => HX1.out j w' hlt
      have r1 := HSh.out.lanes.lo p (by omega)
      have r2 := HSh.out.lanes.up p hpn
      have r3 := HSh.out.lanes.hi (p + 1) (by omega)
      obtain ⟨x, hx⟩ := Int.eq_ofNat_of_zero_le r1
      obtain ⟨y, hy⟩ := Int.eq_ofNat_of_zero_le (Int.le_trans r1 r2)
      have g2 : wr.cell? ⟨b2, off2 + p, none⟩ = some (.int .i64 x) := by rw [← show ls.getD p 0 = (x : Int) from hx]; exact cell_later hbel (HC2.out p (by omega))
      have HG2 : Hid (∀ w', Below w.heap.size w w' → w'.cell? ⟨b2, off2 + p, none⟩ = some (.int .i64 x)) := fun w' hb => by rw [← show ls.getD p 0 = (x : Int) from hx]; exact cell_later hb (HC2.out p (by omega))
      have hx2 := fun w' => HX2.out p w' (by omega)
      have HY : Hid (∀ w', Below w.heap.size w w' → w'.cell? ⟨b2, off2 + (p + 1), none⟩ = some (.int .i64 y)) := fun w' hb => by rw [← show ls.getD (p + 1) 0 = (y : Int) from hy]; exact cell_later hb (HC2.out (p + 1) (by omega))
      have hx2' : ∀ w', (Instr.indexAt 23 (.slice a2 (np + 1) c2) (.int .i64 (p + 1))).run Try.prog w' = .ok (.pointer (some ⟨b2, off2 + (p + 1), none⟩)) w' := fun w' => by simpa using HX2.out (p + 1) w' (by omega)
      have HP : Hid (grp.getD j 0 = p) := hp
      have HLx : Hid (ls.getD p 0 = x) := hx
      have HLy : Hid (ls.getD (p + 1) 0 = y) := hy
      have HM : Hid (mOf grp ls j = y - x) := (by unfold Hid mOf; rw [hp, Int.toNat_natCast, hx, hy]; omega)
      have HCr : Hid (∀ i, CrossI grp ls pr sd j i ↔ (x ≤ i ∧ i < y ∧ 0 ≤ sd.getD i 0 ∧ pr.getD (sd.getD i 0).toNat 0 ≠ p)) := fun i => (by
        unfold CrossI
        rw [hp, Int.toNat_natCast, hx, hy]
        constructor
        · rintro ⟨e1, e2, e3, e4⟩; exact ⟨by omega, by omega, e3, e4⟩
        · rintro ⟨e1, e2, e3, e4⟩; exact ⟨by omega, by omega, e3, e4⟩)
      have HBd : Hid (rsum (mOf grp ls) (j + 1) + 1 ≤ 4096) := (by
        unfold Hid
        have e1 := rsum_pf (mOf grp ls) (j + 1)
        have e2 := pf_mono' (mOf grp ls) 0 (j + 1) (g - (j + 1))
        rw [show j + 1 + (g - (j + 1)) = g by omega] at e2
        have := HTot.out
        omega)
      have HRs : Hid (rsum (mOf grp ls) (j + 1) = rsum (mOf grp ls) j + (y - x)) := (by unfold Hid; rw [← HM.out]; rfl)
      rw [hx] at r2
      rw [hy] at r2 r3
      clear r1 hx hy hp hgj hbel
      go_wp2
      go_loopw [14, 15, 16, 17, 20] (fun v14 v15 v16 v17 v20 wq => ∃ (i : Nat) (qs : List Qd), x ≤ i ∧ i ≤ y ∧ v20 = .int .i64 i ∧ Q4 w wq v14 v15 v16 v17 (qs.map Qd.a) (qs.map Qd.b) (qs.map Qd.q) (qs.map Qd.d) ∧ QSpec grp ls pr sd zs qs (fun j' i' => j' < j ∨ (j' = j ∧ i' < i)) ∧ qs.length ≤ rsum (mOf grp ls) j + (i - x)) (fun _ _ _ _ v20 _ => y - (intOf v20).toNat)
      case atStart =>
        refine ⟨x, qs, Nat.le_refl _, by omega, rfl, HQ.out, HSp.out.more (fun j' i' h => .inl h) (fun j' i' h hc => ?_), by have := HLen.out; omega⟩
        rcases h with h | ⟨rfl, h⟩
        · exact h
        · rw [HCr.out] at hc; omega
      case round =>
        clear g1 hx1 g2 HQ HSp HLen
        obtain ⟨i, qs, hi1, hi2, rfl, hQ, hsp, hlen⟩ := hrel
        have HQ : Hid (Q4 w wr _ _ _ _ (qs.map Qd.a) (qs.map Qd.b) (qs.map Qd.q) (qs.map Qd.d)) := hQ
        have HSp : Hid (QSpec grp ls pr sd zs qs (fun j' i' => j' < j ∨ (j' = j ∧ i' < i))) := hsp
        have hbel := hQ.bel
        have gy := HY.out _ hbel
        have HLen : Hid (qs.length ≤ rsum (mOf grp ls) j + (i - x)) := hlen
        clear hQ hsp hlen
        by_cases hiy : i < y
        · have hIn : i < n := by omega
          have g4 : wr.cell? ⟨b4, off4 + i, none⟩ = some (.int .i64 (sd.getD i 0)) := cell_later hbel (HC4.out i hIn)
          have hx4 := fun w' => HX4.out i w' hIn
          have HSkip : Hid (¬ CrossI grp ls pr sd j i → QSpec grp ls pr sd zs qs (fun j' i' => j' < j ∨ (j' = j ∧ i' < i + 1))) := fun hn => HSp.out.more (fun j' i' h => by omega) (fun j' i' h hc => by
            by_cases e : j' = j ∧ i' = i
            · obtain ⟨rfl, rfl⟩ := e; exact absurd hc hn
            · omega)
          by_cases hs : sd.getD i 0 < 0
          · have HSp2 : Hid (QSpec grp ls pr sd zs qs (fun j' i' => j' < j ∨ (j' = j ∧ i' < i + 1))) := HSkip.out (by rw [HCr.out]; rintro ⟨_, _, h, _⟩; omega)
            clear HSkip HSp
            generalize sd.getD i 0 = sv at *
            go_wp2
            go_roundw
            case rel => exact ⟨i + 1, qs, by omega, by omega, by go_num, HQ.out, HSp2.out, by have := HLen.out; omega⟩
            case measure => simp [intOf]; omega
          · obtain ⟨S, hS⟩ : ∃ S : Nat, sd.getD i 0 = S := ⟨(sd.getD i 0).toNat, by omega⟩
            have hSn : S < n := by have := HSh.out.senders.lt i hIn; omega
            have g3 : wr.cell? ⟨b3, off3 + S, none⟩ = some (.int .i64 (pr.getD S 0)) := cell_later hbel (HC3.out S hSn)
            have hx3 := fun w' => HX3.out S w' hSn
            have hpS := HPR.out S hSn
            obtain ⟨q, hq⟩ : ∃ q : Nat, pr.getD S 0 = q := ⟨(pr.getD S 0).toNat, by have := hpS.1; omega⟩
            have hqn : q < np := by have := hpS.2; omega
            rw [hS] at g4
            rw [hq] at g3
            by_cases c1 : (q : Int) = p
            · have HSp2 : Hid (QSpec grp ls pr sd zs qs (fun j' i' => j' < j ∨ (j' = j ∧ i' < i + 1))) := HSkip.out (by
                rw [HCr.out]
                rintro ⟨_, _, _, h⟩
                rw [hS, Int.toNat_natCast, hq] at h
                exact h c1)
              have c1b : ((q : Int) == (p : Int)) = true := by simpa using c1
              clear HSkip HSp c1 hS hq hpS hs
              go_wp2
              go_roundw
              case rel => exact ⟨i + 1, qs, by omega, by omega, by go_num, HQ.out, HSp2.out, by have := HLen.out; omega⟩
              case measure => simp [intOf]; omega
            · have c1b : ((q : Int) == (p : Int)) = false := by simpa using c1
              have hcr : CrossI grp ls pr sd j i := by
                rw [HCr.out]
                exact ⟨hi1, hiy, by omega, by rw [hS, Int.toNat_natCast, hq]; exact c1⟩
              have hz0 : 0 ≤ zs.getD q 0 := by
                have := HCL.out j i hlt hcr.1 hcr.2.1 hcr.2.2.1 hcr.2.2.2
                rw [hS, Int.toNat_natCast, hq, Int.toNat_natCast] at this
                exact this
              have hzg := HZB.out q hqn
              obtain ⟨Z, hZ⟩ : ∃ Z : Nat, zs.getD q 0 = Z := ⟨(zs.getD q 0).toNat, by omega⟩
              have l1 := HSh.out.lanes.lo q (by omega)
              have l2 := HSh.out.lanes.hi q (by omega)
              obtain ⟨xq, hxq⟩ := Int.eq_ofNat_of_zero_le l1
              have HSp2 : Hid (QSpec grp ls pr sd zs (qs ++ [⟨(j : Int), (i : Int) - (x : Int) + 1, (Z : Int), (S : Int) - (xq : Int) + 1⟩]) (fun j' i' => j' < j ∨ (j' = j ∧ i' < i + 1))) := (by
                unfold Hid
                have e : mkQ grp ls pr sd zs j i = ⟨(j : Int), (i : Int) - (x : Int) + 1, (Z : Int), (S : Int) - (xq : Int) + 1⟩ := by
                  unfold mkQ
                  rw [hS, Int.toNat_natCast, hq, Int.toNat_natCast, hZ, HP.out, Int.toNat_natCast, HLx.out]
                  rw [show ls.getD q 0 = (xq : Int) from hxq]
                rw [← e]
                exact HSp.out.add j i hcr (by omega) (fun j' i' h => by omega) (fun j' i' h => by omega))
              have hxqn : (xq : Int) ≤ n := by rw [← show ls.getD q 0 = (xq : Int) from hxq]; exact l2
              have HG3 : Hid (∀ w', Below w.heap.size w w' → w'.cell? ⟨b3, off3 + S, none⟩ = some (.int .i64 q)) := fun w' hb => by rw [← hq]; exact cell_later hb (HC3.out S hSn)
              have HG5 : Hid (∀ w', Below w.heap.size w w' → w'.cell? ⟨b5, off5 + q, none⟩ = some (.int .i64 Z)) := fun w' hb => by rw [← hZ]; exact cell_later hb (HC5.out q hqn)
              have HG2q : Hid (∀ w', Below w.heap.size w w' → w'.cell? ⟨b2, off2 + q, none⟩ = some (.int .i64 xq)) := fun w' hb => by rw [← show ls.getD q 0 = (xq : Int) from hxq]; exact cell_later hb (HC2.out q (by omega))
              have hx5 := fun w' => HX5.out q w' hqn
              have hx2q := fun w' => HX2.out q w' (by omega)
              have hl4 : qs.length ≤ 4096 := by have := HLen.out; have := HBd.out; have := HRs.out; omega
              clear HSkip HSp c1 hS hq hpS hs hcr hz0 hzg hZ l1 l2 hxq
              go_upto_region 13 with (first | (at_builtin; refine wpList_iappend1 rfl _ _ rfl u14 (qs.map Qd.a) (j : Int) wr.heap.size rfl (HQ.out.o1.alloc _) rfl (by simp) (by rw [List.length_map]; omega) ?_; intro G1 K1 w1 r1 r2 r3))
              have HQ1 : Hid (Q4 w w1 _ _ _ _ (qs.map Qd.b) (qs.map Qd.q) (qs.map Qd.d) (qs.map Qd.a ++ [(j : Int)])) := (HQ.out.push r1 r2 r3 rfl).rot
              clear r1 r2 r3 HQ g4 hx4 g3
              have k2 := HG2.out _ HQ1.out.bel
              go_upto_region 14 with (first | (at_builtin; refine wpList_iappend1 rfl _ _ rfl u15 (qs.map Qd.b) ((i : Int) - (x : Int) + 1) w1.heap.size rfl (HQ1.out.o1.alloc _) rfl (by simp) (by rw [List.length_map]; omega) ?_; intro G2 K2 w2 r1 r2 r3))
              have HQ2 : Hid (Q4 w w2 _ _ _ _ (qs.map Qd.q) (qs.map Qd.d) (qs.map Qd.a ++ [(j : Int)]) (qs.map Qd.b ++ [(i : Int) - (x : Int) + 1])) := (HQ1.out.push r1 r2 r3 rfl).rot
              clear r1 r2 r3 HQ1 k2
              have k3 := HG3.out _ HQ2.out.bel
              have k5 := HG5.out _ HQ2.out.bel
              go_upto_region 15 with (first | (at_builtin; refine wpList_iappend1 rfl _ _ rfl u16 (qs.map Qd.q) (Z : Int) w2.heap.size rfl (HQ2.out.o1.alloc _) rfl (by simp) (by rw [List.length_map]; omega) ?_; intro G3 K3 w3 r1 r2 r3))
              have HQ3 : Hid (Q4 w w3 _ _ _ _ (qs.map Qd.d) (qs.map Qd.a ++ [(j : Int)]) (qs.map Qd.b ++ [(i : Int) - (x : Int) + 1]) (qs.map Qd.q ++ [(Z : Int)])) := (HQ2.out.push r1 r2 r3 rfl).rot
              clear r1 r2 r3 HQ2 k3 k5
              have k3 := HG3.out _ HQ3.out.bel
              have k2 := HG2q.out _ HQ3.out.bel
              go_wp2_with (first | (at_builtin; refine wpList_iappend1 rfl _ _ rfl u17 (qs.map Qd.d) ((S : Int) - (xq : Int) + 1) w3.heap.size rfl (HQ3.out.o1.alloc _) rfl (by simp) (by rw [List.length_map]; omega) ?_; intro G4 K4 w4 r1 r2 r3))
              have HQ4 := (HQ3.out.push r1 r2 r3 rfl).rot
              simp only [List.length_map] at HQ4
              go_roundw
              case rel =>
                refine ⟨i + 1, qs ++ [⟨(j : Int), (i : Int) - (x : Int) + 1, (Z : Int), (S : Int) - (xq : Int) + 1⟩], by omega, by omega, by go_num, ?_, HSp2.out, ?_⟩
                · rw [map_snoc, map_snoc, map_snoc, map_snoc]; exact HQ4
                · rw [List.length_append, List.length_singleton]; have := HLen.out; omega
              case measure => simp [intOf]; omega
        · have e : i = y := by omega
          subst e
          have HSp2 : Hid (QSpec grp ls pr sd zs qs (fun j' _ => j' < j + 1)) := HSp.out.more (fun j' i' h => by omega) (fun j' i' h hc => by
            by_cases e : j' = j
            · subst e; rw [HCr.out] at hc; omega
            · omega)
          clear HSp
          go_wp2
          go_roundw
          case rel => exact ⟨j + 1, qs, hlt, by go_num, HQ.out, HSp2.out, by rw [HRs.out]; have := HLen.out; omega⟩
          case measure => simp [intOf]; omega
    · have e : g = j := by omega
      subst e
      have HB0 : Hid (Below w.heap.size w wr) := hbel
      obtain ⟨e1, k1, hv1, i1⟩ := own_reads HQ.out.o1
      obtain ⟨e2, k2, hv2, i2⟩ := own_reads HQ.out.o2
      obtain ⟨e3, k3, hv3, i3⟩ := own_reads HQ.out.o3
      obtain ⟨e4, k4, hv4, i4⟩ := own_reads HQ.out.o4
      obtain ⟨d1, f1, hi1, hd1⟩ := ints_open i1
      obtain ⟨d2, f2, hi2, hd2⟩ := ints_open i2
      obtain ⟨d3, f3, hi3, hd3⟩ := ints_open i3
      obtain ⟨d4, f4, hi4, hd4⟩ := ints_open i4
      simp only [List.length_map] at hv1 hv2 hv3 hv4 hi1 hi2 hi3 hi4 hd1 hd2 hd3 hd4
      have HD1 : Hid (∀ j, j < qs.length → wr.cell? ⟨d1, f1 + j, none⟩ = some (.int .i64 ((qs.map Qd.a).getD j 0))) := hd1
      have HD2 : Hid (∀ j, j < qs.length → wr.cell? ⟨d2, f2 + j, none⟩ = some (.int .i64 ((qs.map Qd.b).getD j 0))) := hd2
      have HD3 : Hid (∀ j, j < qs.length → wr.cell? ⟨d3, f3 + j, none⟩ = some (.int .i64 ((qs.map Qd.q).getD j 0))) := hd3
      have HD4 : Hid (∀ j, j < qs.length → wr.cell? ⟨d4, f4 + j, none⟩ = some (.int .i64 ((qs.map Qd.d).getD j 0))) := hd4
      have HI1 : Hid (∀ (k : Nat) (w' : World), k < qs.length → (Instr.indexAt 23 (.slice e1 qs.length k1) (.int .i64 k)).run Try.prog w' = .ok (.pointer (some ⟨d1, f1 + k, none⟩)) w') := fun k w' h => hi1 k1 k w' h
      have HI2 : Hid (∀ (k : Nat) (w' : World), k < qs.length → (Instr.indexAt 23 (.slice e2 qs.length k2) (.int .i64 k)).run Try.prog w' = .ok (.pointer (some ⟨d2, f2 + k, none⟩)) w') := fun k w' h => hi2 k2 k w' h
      have HI3 : Hid (∀ (k : Nat) (w' : World), k < qs.length → (Instr.indexAt 23 (.slice e3 qs.length k3) (.int .i64 k)).run Try.prog w' = .ok (.pointer (some ⟨d3, f3 + k, none⟩)) w') := fun k w' h => hi3 k3 k w' h
      have HI4 : Hid (∀ (k : Nat) (w' : World), k < qs.length → (Instr.indexAt 23 (.slice e4 qs.length k4) (.int .i64 k)).run Try.prog w' = .ok (.pointer (some ⟨d4, f4 + k, none⟩)) w') := fun k w' h => hi4 k4 k w' h
      have HXH : Hid (∀ (k : Nat) (w' : World), k < g → (Instr.indexAt 23 (.slice (some ⟨wr.heap.size, 0, none⟩) g g) (.int .i64 k)).run Try.prog w' = .ok (.pointer (some ⟨wr.heap.size, k, none⟩)) w') :=
        fun k w' hk => by simpa using indexAt_one Try.underlying23 Try.info3 wr.heap.size 0 _ g k hk w'
      have HQb : Hid (∀ x, x < qs.length → (0 ≤ (qs.map Qd.a).getD x 0 ∧ (qs.map Qd.a).getD x 0 < g) ∧ (0 ≤ (qs.map Qd.q).getD x 0 ∧ (qs.map Qd.q).getD x 0 < g)) := fun x hx => (by
        obtain ⟨j, i, hj', hc, hq⟩ := HSp.out.only qs[x] (List.getElem_mem hx)
        have hc1 : 0 ≤ zs.getD (pr.getD (sd.getD i 0).toNat 0).toNat 0 := HCL.out j i hj' hc.1 hc.2.1 hc.2.2.1 hc.2.2.2
        have hjr := HGR.out j hj'
        have hin : i < n := by
          have := HSh.out.lanes.hi ((grp.getD j 0).toNat + 1) (by have := hjr.1; have := hjr.2; omega)
          have := hc.2.1
          omega
        have hsn := HSh.out.senders.lt i hin
        have hpr := HPR.out (sd.getD i 0).toNat (by have := hc.2.2.1; omega)
        have hzg := HZB.out (pr.getD (sd.getD i 0).toNat 0).toNat (by have := hpr.1; have := hpr.2; omega)
        rw [getD_map hx, getD_map hx, hq]
        exact ⟨⟨by show (0 : Int) ≤ (j : Nat); omega, by show ((j : Nat) : Int) < g; omega⟩, hc1, hzg⟩)
      have HL4 : Hid (qs.length ≤ 4096) := (by
        unfold Hid
        have := rsum_pf (mOf grp ls) g
        have := HTot.out
        have := HLen.out
        omega)
      have hL4 := HL4.out
      have hsz0 := hbel.size
      rw [hv1, hv2, hv3, hv4]
      clear HQ hv1 hv2 hv3 hv4 i1 i2 i3 i4 hi1 hi2 hi3 hi4 hd1 hd2 hd3 hd4 hbel HCL HZB HLen hlt
      have hT4 := HTot.out
      generalize hT : pf (mOf grp ls) 0 g = T at *
      have HT : Hid (pf (mOf grp ls) 0 g = T) := hT
      clear hT HTot
      obtain ⟨W, hW⟩ : ∃ W, W = wr := ⟨_, rfl⟩
      have HW : Hid (W = wr) := hW
      have hmk := HMG.out
      --AUX
      go_wp2
      clear hmk
      go_loopw [23, 24] (fun v23 v24 wq => ∃ it : Nat, it ≤ T ∧ v24 = .int .i64 it ∧ v23 = .int .i64 (fineCnt qs (mOf grp ls) g it : Nat) ∧ IArr wq W.heap.size (dig (mOf grp ls) 0 g it) ∧ Below W.heap.size W wq) (fun _ v24 _ => T - (intOf v24).toNat)
      case atStart =>
        subst hW
        refine ⟨0, Nat.zero_le _, rfl, rfl, ?_, (Below.refl _ _).alloc (Nat.le_refl _) _⟩
        rw [dig_zero]
        exact IArr.made W g
      case round =>
        subst hW
        obtain ⟨it, hit, rfl, rfl, hA, hbW⟩ := hrel
        have hcl := fineCnt_le qs (mOf grp ls) g it
        by_cases hlt : it < T
        · have HStep : Hid (fineCnt qs (mOf grp ls) g (it + 1) = fineCnt qs (mOf grp ls) g it + (if fineTo qs (dig (mOf grp ls) 0 g it) qs.length = true then 1 else 0)) := rfl
          have HInc : Hid (inc (mOf grp ls) 0 (dig (mOf grp ls) 0 g it) = dig (mOf grp ls) 0 g (it + 1)) := inc_dig _ _ _ _
          have HHl : Hid ((dig (mOf grp ls) 0 g it).length = g) := dig_len _ _ _ _
          have HHn : Hid (∀ j, 0 ≤ (dig (mOf grp ls) 0 g it).getD j 0) := fun j => dig_nonneg _ _ _ _ _
          have HA : Hid (IArr wr W.heap.size (dig (mOf grp ls) 0 g it)) := hA
          have HBW : Hid (Below W.heap.size W wr) := hbW
          clear hA hbW
          generalize dig (mOf grp ls) 0 g it = h at *
          generalize fineCnt qs (mOf grp ls) g it = cn at *
          go_upto_region 21 with fail
          go_cut [25] (fun v25 wx => v25 = .bool true ∧ wx = wr)
          case first =>
            go_wp2
            go_meet
            exact ⟨rfl, rfl⟩
          case rest =>
            obtain ⟨rfl, rfl⟩ := hcut
            go_step
            go_step
            go_cut [25] (fun v25 wx => v25 = .bool (fineTo qs h qs.length) ∧ IArr wx W.heap.size h ∧ Below W.heap.size W wx)
            case first =>
              go_wp2
              go_loopw [25, 26] (fun v25 v26 wx => ∃ x : Nat, x ≤ qs.length ∧ v26 = .int .i64 x ∧ v25 = .bool (fineTo qs h x) ∧ IArr wx W.heap.size h ∧ Below W.heap.size W wx) (fun _ v26 _ => qs.length - (intOf v26).toNat)
              case atStart => exact ⟨0, Nat.zero_le _, rfl, rfl, HA.out, HBW.out⟩
              case round =>
                clear HA HBW
                obtain ⟨x, hx, rfl, rfl, hA, hbW⟩ := hrel
                have HA : Hid (IArr wr W.heap.size h) := hA
                have HBW : Hid (Below W.heap.size W wr) := hbW
                clear hA hbW
                by_cases hxl : x < qs.length
                · cases hfx : fineTo qs h x with
                  | false =>
                    have HF : Hid (fineTo qs h qs.length = false) := (by
                      unfold Hid
                      have := fineTo_no hfx (qs.length - x)
                      rwa [show x + (qs.length - x) = qs.length by omega] at this)
                    clear hfx
                    go_wp2
                    go_meet
                    exact ⟨by rw [HF.out], HA.out, HBW.out⟩
                  | true =>
                    have hqb := HQb.out x hxl
                    obtain ⟨J, hJ⟩ : ∃ J : Nat, (qs.map Qd.a).getD x 0 = J := ⟨((qs.map Qd.a).getD x 0).toNat, by omega⟩
                    obtain ⟨Q, hQ⟩ : ∃ Q : Nat, (qs.map Qd.q).getD x 0 = Q := ⟨((qs.map Qd.q).getD x 0).toNat, by omega⟩
                    have hJg : J < g := by omega
                    have hQg : Q < g := by omega
                    have m1 : wr.cell? ⟨d1, f1 + x, none⟩ = some (.int .i64 J) := by rw [← hJ]; exact cell_later HBW.out (HD1.out x hxl)
                    have m2 : wr.cell? ⟨d2, f2 + x, none⟩ = some (.int .i64 ((qs.map Qd.b).getD x 0)) := cell_later HBW.out (HD2.out x hxl)
                    have m3 : wr.cell? ⟨d3, f3 + x, none⟩ = some (.int .i64 Q) := by rw [← hQ]; exact cell_later HBW.out (HD3.out x hxl)
                    have m4 : wr.cell? ⟨d4, f4 + x, none⟩ = some (.int .i64 ((qs.map Qd.d).getD x 0)) := cell_later HBW.out (HD4.out x hxl)
                    have n1 := fun w' => HI1.out x w' hxl
                    have n2 := fun w' => HI2.out x w' hxl
                    have n3 := fun w' => HI3.out x w' hxl
                    have n4 := fun w' => HI4.out x w' hxl
                    have o1 := HA.out.cell J (by rw [HHl.out]; exact hJg)
                    have o2 := HA.out.cell Q (by rw [HHl.out]; exact hQg)
                    have p1 := fun w' => HXH.out J w' hJg
                    have p2 := fun w' => HXH.out Q w' hQg
                    have HF : Hid (fineTo qs h (x + 1) = !(decide ((qs.map Qd.b).getD x 0 ≤ h.getD J 0) && decide (h.getD Q 0 < (qs.map Qd.d).getD x 0))) := (by
                      unfold Hid
                      show (fineTo qs h x && _) = _
                      rw [hfx, hJ, hQ, Int.toNat_natCast, Int.toNat_natCast]
                      rfl)
                    clear hfx hJ hQ hqb
                    generalize (qs.map Qd.b).getD x 0 = vb at *
                    generalize (qs.map Qd.d).getD x 0 = vd at *
                    generalize h.getD J 0 = hj1 at *
                    generalize h.getD Q 0 = hq1 at *
                    by_cases q1 : vb ≤ hj1
                    · by_cases q2 : hq1 < vd
                      · have HF2 : Hid (fineTo qs h (x + 1) = false) := (by unfold Hid; rw [HF.out, decide_eq_true q1, decide_eq_true q2]; rfl)
                        go_wp2
                        go_quiet (fail)
                        go_wp2
                        go_roundw
                        case rel => exact ⟨x + 1, by omega, by go_num, by rw [HF2.out], HA.out, below_drewN HBW.out _⟩
                        case measure => simp [intOf]; omega
                      · have HF2 : Hid (fineTo qs h (x + 1) = true) := (by unfold Hid; rw [HF.out, decide_eq_true q1, decide_eq_false q2]; rfl)
                        go_wp2
                        go_quiet (fail)
                        go_wp2
                        go_roundw
                        case rel => exact ⟨x + 1, by omega, by go_num, by rw [HF2.out], HA.out, below_drewN HBW.out _⟩
                        case measure => simp [intOf]; omega
                    · have HF2 : Hid (fineTo qs h (x + 1) = true) := (by unfold Hid; rw [HF.out, decide_eq_false q1]; rfl)
                      have hdb : decide (vb ≤ hj1) = false := decide_eq_false q1
                      go_wp2
                      go_quiet (fail)
                      go_wp2
                      go_roundw
                      case rel => exact ⟨x + 1, by omega, by go_num, by rw [HF2.out], HA.out, below_drewN HBW.out _⟩
                      case measure => simp [intOf]; omega
                · have ex : qs.length = x := by omega
                  have HEx : Hid (qs.length = x) := ex
                  clear ex
                  go_wp2
                  go_meet
                  exact ⟨by rw [HEx.out], HA.out, HBW.out⟩
            case rest =>
              obtain ⟨rfl, hA, hbW⟩ := hcut
              have HA2 : Hid (IArr wc W.heap.size h) := hA
              have HBW2 : Hid (Below W.heap.size W wc) := hbW
              clear hA hbW HA HBW
              have HStep2 : Hid (∀ β, fineTo qs h qs.length = β → fineCnt qs (mOf grp ls) g (it + 1) = cn + (if β = true then 1 else 0)) := fun β hβ => (by rw [HStep.out, hβ])
              generalize hβ : fineTo qs h qs.length = β
              have HS3 : Hid (fineCnt qs (mOf grp ls) g (it + 1) = cn + (if β = true then 1 else 0)) := HStep2.out β hβ
              clear HStep HStep2 hβ
              go_upto_region 27 with fail
              go_cut [146] (fun v wx => v = .bool β ∧ wx = wc)
              case first =>
                go_wp2
                go_meet
                exact ⟨rfl, rfl⟩
              case rest =>
                obtain ⟨rfl, rfl⟩ := hcut
                go_step
                go_cut [23] (fun v23 wx => v23 = .int .i64 (fineCnt qs (mOf grp ls) g (it + 1) : Nat) ∧ wx = wc)
                case first =>
                  cases β with
                  | false =>
                    have HF : Hid (fineCnt qs (mOf grp ls) g (it + 1) = cn) := HS3.out
                    clear HS3
                    go_wp2
                    go_meet
                    exact ⟨by rw [HF.out], rfl⟩
                  | true =>
                    have HF : Hid (fineCnt qs (mOf grp ls) g (it + 1) = cn + 1) := HS3.out
                    clear HS3
                    go_wp2
                    go_meet
                    exact ⟨by rw [HF.out]; go_num, rfl⟩
                case rest =>
                  obtain ⟨rfl, rfl⟩ := hcut
                  clear HS3
                  go_wp2
                  go_loopw [27] (fun v27 wx => ∃ j : Nat, j ≤ g ∧ v27 = .int .i64 j ∧ IArr wx W.heap.size (mid j h) ∧ inc (mOf grp ls) 0 h = List.replicate j 0 ++ inc (mOf grp ls) j (h.drop j) ∧ Below W.heap.size W wx) (fun v27 _ => g - (intOf v27).toNat)
                  case atStart => exact ⟨0, Nat.zero_le _, rfl, by show IArr _ _ (mid 0 h); unfold mid; simpa using HA2.out, by simp, HBW2.out⟩
                  case round =>
                    clear HA2 HBW2
                    obtain ⟨j, hj, rfl, hA, hic, hbW⟩ := hrel
                    have HA : Hid (IArr wr W.heap.size (mid j h)) := hA
                    have HIc : Hid (inc (mOf grp ls) 0 h = List.replicate j 0 ++ inc (mOf grp ls) j (h.drop j)) := hic
                    have HBW : Hid (Below W.heap.size W wr) := hbW
                    clear hA hic hbW
                    by_cases hjg : j < g
                    · have hgj := HGR.out j hjg
                      obtain ⟨p, hp⟩ : ∃ p : Nat, grp.getD j 0 = p := ⟨(grp.getD j 0).toNat, by have := hgj.1; omega⟩
                      have hpn : p < np := by have := hgj.2; omega
                      have HBw : Hid (Below w.heap.size w wr) := HB0.out.trans (HBW.out.mono HB0.out.size)
                      have g1 : wr.cell? ⟨b1, off1 + j, none⟩ = some (.int .i64 p) := by rw [← hp]; exact cell_later HBw.out (HC1.out j hjg)
                      have hx1 := fun w' => HX1.out j w' hjg
                      have r1 := HSh.out.lanes.lo p (by omega)
                      have r2 := HSh.out.lanes.up p hpn
                      have r3 := HSh.out.lanes.hi (p + 1) (by omega)
                      obtain ⟨x, hx⟩ := Int.eq_ofNat_of_zero_le r1
                      obtain ⟨y, hy⟩ := Int.eq_ofNat_of_zero_le (Int.le_trans r1 r2)
                      have g2 : wr.cell? ⟨b2, off2 + p, none⟩ = some (.int .i64 x) := by rw [← show ls.getD p 0 = (x : Int) from hx]; exact cell_later HBw.out (HC2.out p (by omega))
                      have hx2 := fun w' => HX2.out p w' (by omega)
                      have gy : wr.cell? ⟨b2, off2 + (p + 1), none⟩ = some (.int .i64 y) := by rw [← show ls.getD (p + 1) 0 = (y : Int) from hy]; exact cell_later HBw.out (HC2.out (p + 1) (by omega))
                      have hx2' : ∀ w', (Instr.indexAt 23 (.slice a2 (np + 1) c2) (.int .i64 (p + 1))).run Try.prog w' = .ok (.pointer (some ⟨b2, off2 + (p + 1), none⟩)) w' := fun w' => by simpa using HX2.out (p + 1) w' (by omega)
                      have HM : Hid ((mOf grp ls j : Nat) = y - x) := (by unfold Hid mOf; rw [hp, Int.toNat_natCast, hx, hy]; omega)
                      rw [hx] at r2
                      rw [hy] at r2 r3
                      have gA := HA.out.cell j (by rw [mid_len j h (by rw [HHl.out]; exact hj), HHl.out]; exact hjg)
                      rw [mid_at] at gA
                      have fA := HA.out.frozen j
                      have hxA := fun w' => HXH.out j w' hjg
                      have hh0 := HHn.out j
                      have HA1 : Hid (h.getD j 0 < mOf grp ls j → IArr (wr.setCell ⟨W.heap.size, j, none⟩ (.int .i64 (h.getD j 0 + 1))) W.heap.size (dig (mOf grp ls) 0 g (it + 1))) := fun hm => (by
                        rw [← HInc.out, ← inc_stop j h (by rw [HHl.out]; exact hjg) HIc.out hm]
                        exact HA.out.set j _)
                      have HA0 : Hid (IArr (wr.setCell ⟨W.heap.size, j, none⟩ (.int .i64 0)) W.heap.size (mid (j + 1) h)) := (by
                        unfold Hid
                        rw [← mid_set j h (by rw [HHl.out]; exact hjg)]
                        exact HA.out.set j 0)
                      have HIc2 : Hid (¬ h.getD j 0 < mOf grp ls j → inc (mOf grp ls) 0 h = List.replicate (j + 1) 0 ++ inc (mOf grp ls) (j + 1) (h.drop (j + 1))) := fun hm => inc_mid j h (by rw [HHl.out]; exact hjg) HIc.out hm
                      rw [HM.out] at HA1 HIc2
                      clear r1 hx hy hp hgj
                      generalize h.getD j 0 = hv at *
                      have hw1 : IntKind.i64.wrap ((p : Int) + 1) = (p : Int) + 1 := by rw [IntKind.wrap_i64]; omega
                      have hw2 : IntKind.i64.wrap ((y : Int) - (x : Int)) = (y : Int) - (x : Int) := by rw [IntKind.wrap_i64]; omega
                      by_cases hlt2 : hv < (y : Int) - (x : Int)
                      · have HA2 : Hid (IArr (wr.setCell ⟨W.heap.size, j, none⟩ (.int .i64 (hv + 1))) W.heap.size (dig (mOf grp ls) 0 g (it + 1))) := HA1.out (by omega)
                        have HB2 : Hid (Below W.heap.size W (wr.setCell ⟨W.heap.size, j, none⟩ (.int .i64 (hv + 1)))) := HBW.out.setCell (Nat.le_refl _) _
                        have hdl : decide (hv < (y : Int) - (x : Int)) = true := decide_eq_true hlt2
                        clear HA1 HIc2 HA0
                        go_wp2
                        go_quiet (fail)
                        go_wp2
                        go_roundw
                        case rel => exact ⟨it + 1, hlt, by go_num, rfl, HA2.out, (below_drewN HBW.out _).setCell (Nat.le_refl _) _⟩
                        case measure => simp [intOf]; omega
                      · have HIc3 : Hid (inc (mOf grp ls) 0 h = List.replicate (j + 1) 0 ++ inc (mOf grp ls) (j + 1) (h.drop (j + 1))) := HIc2.out (by omega)
                        have HB2 : Hid (Below W.heap.size W (wr.setCell ⟨W.heap.size, j, none⟩ (.int .i64 0))) := HBW.out.setCell (Nat.le_refl _) _
                        have hdl : decide (hv < (y : Int) - (x : Int)) = false := decide_eq_false hlt2
                        clear HA1 HIc2
                        go_wp2
                        go_quiet (fail)
                        go_wp2
                        go_roundw
                        case rel => exact ⟨j + 1, hjg, by go_num, HA0.out, HIc3.out, (below_drewN HBW.out _).setCell (Nat.le_refl _) _⟩
                        case measure => simp [intOf]; omega
                    · have ej : g = j := by omega
                      have HA2 : Hid (IArr wr W.heap.size (dig (mOf grp ls) 0 g (it + 1))) := (by
                        unfold Hid
                        have h1 := HA.out
                        have h2 := HIc.out
                        rw [← ej, ← HHl.out] at h1 h2
                        rw [inc_end h h2, HInc.out] at h1
                        exact h1)
                      clear ej
                      go_wp2
                      go_roundw
                      case rel => exact ⟨it + 1, hlt, by go_num, rfl, HA2.out, HBW.out⟩
                      case measure => simp [intOf]; omega
        · have e : T = it := by omega
          have HE : Hid (pf (mOf grp ls) 0 g = it) := (by unfold Hid; rw [HT.out]; exact e)
          clear e
          go_wp2
          go_ret
          exact ⟨HB0.out.trans (hbW.mono HB0.out.size), qs, HSp.out, (by rw [HE.out]; rfl)⟩
end Go.Proofs.Qxb6603214a
