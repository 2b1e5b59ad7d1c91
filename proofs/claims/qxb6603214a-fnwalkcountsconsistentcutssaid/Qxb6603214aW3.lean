import Derived.Test.Qxb6603214aShp
import Derived.Test.Qxb6603214aCMem
import Derived.Test.Qxb6603214aWalkQ
import Derived.Deep.QuietTactic
import Derived.BigQuiet
import Derived.OwnWalk
namespace Go.Proofs.Qxb6603214a
open Go.RowKit WalkP
set_option linter.unusedVariables false

/-- A run without circles: each event has a Lamport time. -/
def Times (np n : Nat) (ls sd : List Int) : Prop := ∃ t, Lamp.Fix n (Lamp.firstB ls np) sd t ∧ ∀ i, i < n → t.getD i 0 ≠ 0

set_option maxHeartbeats 1000000 in
theorem sound_any (a a' : Option Addr) (c c' : Nat) (ls sd : List Int) (np n : Nat) (w : World) (hn : n ≤ 5000) (hnp : np ≤ 5000) (hL : Lanes np n ls) (hS : Senders n sd) (h1 : Ints w a ls) (h2 : Ints w a' sd) :
    Calls Try.prog 30 #[.slice a ls.length c, .slice a' sd.length c', .int .i64 n] w (SaysIf (Times np n ls sd) w) := by
  have HM := model_any a a' c c' ls sd np n w hn hnp hL hS h1 h2
  have HM : Hid (Calls Try.prog 16 #[.slice a ls.length c, .slice a' sd.length c', .int .i64 n] w (ModelMade n (Lamp.firstB ls np) sd w)) := HM
  clear h1 h2 hL hS
  go_enter Try.func30, Try.ntmps30
  go_wp2_with fail
  refine HM.out.mono ?_
  rintro e w1 ⟨g, t, rfl, hA, hF, hb⟩
  have HF : Hid (Lamp.Fix n (Lamp.firstB ls np) sd t) := hF
  have HA : Hid (IArr w1 g t) := hA
  have HX : Hid (∀ (k : Nat) (w' : World), k < n → (Instr.indexAt 23 (.slice (some ⟨g, 0, none⟩) n n) (.int .i64 k)).run Try.prog w' = .ok (.pointer (some ⟨g, k, none⟩)) w') :=
    fun k w' hk => by simpa using indexAt_one Try.underlying23 Try.info3 g 0 _ n k hk w'
  clear hA hF HM
  go_wp2
  go_loopw [8] (fun v wr => ∃ i : Nat, i ≤ n ∧ v = .int .i64 i ∧ (∀ j, j < i → t.getD j 0 ≠ 0) ∧ wr = w1) (fun v _ => n - (intOf v).toNat)
  case atStart => exact ⟨0, Nat.zero_le _, rfl, fun j hj => by omega, rfl⟩
  case round =>
    obtain ⟨i, hi, rfl, hall, rfl⟩ := hrel
    by_cases hlt : i < n
    · have gg := HA.out.cell i (by rw [HF.out.len]; exact hlt)
      have hx := fun w' => HX.out i w' hlt
      have HAll : Hid (t.getD i 0 ≠ 0 → ∀ j, j < i + 1 → t.getD j 0 ≠ 0) := fun h0 j hj => by
        by_cases e : j = i
        · subst e; exact h0
        · exact hall j (by omega)
      clear hall
      generalize t.getD i 0 = v at *
      by_cases e : v = 0
      · subst e
        go_wp2
        go_ret
        exact SaysIf.no hb
      · have hvb : (v == 0) = false := by simpa using e
        have HE : Hid (v ≠ 0) := e
        clear e
        go_wp2
        go_roundw
        case rel => exact ⟨i + 1, hlt, by go_num, HAll.out HE.out, by trivial⟩
        case measure => simp [intOf]; omega
    · have HAll : Hid (∀ j, j < n → t.getD j 0 ≠ 0) := fun j hj => hall j (by omega)
      clear hall
      go_wp2
      go_ret
      exact SaysIf.yes ⟨t, HF.out, HAll.out⟩ hb

/-! ### zzLocal -/
def zl (grp : List Int) (np : Nat) : Nat → List Int
  | 0 => List.replicate np (-1)
  | j + 1 => (zl grp np j).set (grp.getD j 0).toNat j
theorem zl_len (grp : List Int) (np j : Nat) : (zl grp np j).length = np := by
  induction j with
  | zero => simp [zl]
  | succ j ih => simp [zl, ih]
theorem zl_nonneg (grp : List Int) (np j : Nat) (h : ∀ i, i < j → InR np (grp.getD i 0)) (i : Nat) (hi : i < j) : 0 ≤ (zl grp np j).getD (grp.getD i 0).toNat 0 := by
  induction j with
  | zero => omega
  | succ j ih =>
    have hj := h j (by omega)
    unfold zl
    rw [WalkP.getD_set _ _ _ _ (by rw [zl_len]; have := hj.1; have := hj.2; omega)]
    split
    · omega
    · rename_i hne
      by_cases e : i = j
      · subst e; exact absurd rfl hne
      · exact ih (fun i hi => h i (by omega)) (by omega)
theorem zl_neg (grp : List Int) (np j p : Nat) (hp : p < np) (h : ∀ i, i < j → InR np (grp.getD i 0)) (h2 : ∀ i, i < j → grp.getD i 0 ≠ p) : (zl grp np j).getD p 0 = -1 := by
  induction j with
  | zero =>
    unfold zl
    rw [List.getD_eq_getElem?_getD, List.getElem?_replicate, if_pos hp]; rfl
  | succ j ih =>
    have hj := h j (by omega)
    unfold zl
    rw [WalkP.getD_set _ _ _ _ (by rw [zl_len]; have := hj.1; have := hj.2; omega), if_neg (by have := h2 j (by omega); have := hj.1; omega)]
    exact ih (fun i hi => h i (by omega)) (fun i hi => h2 i (by omega))
/-- The group: processes, none twice. -/
structure Grp (np g : Nat) (grp : List Int) : Prop where
  inr : ∀ j, j < g → InR np (grp.getD j 0)
  ne : ∀ i j, i < j → j < g → grp.getD i 0 ≠ grp.getD j 0
theorem zl_at {np g : Nat} {grp : List Int} (h : Grp np g grp) (i : Nat) (hi : i < g) : (zl grp np g).getD (grp.getD i 0).toNat 0 = i := by
  have : ∀ j, j ≤ g → i < j → (zl grp np j).getD (grp.getD i 0).toNat 0 = i := by
    intro j
    induction j with
    | zero => intro _ h; omega
    | succ j ih =>
      intro hj hij
      have hjr := h.inr j (by omega)
      have hir := h.inr i hi
      unfold zl
      rw [WalkP.getD_set _ _ _ _ (by rw [zl_len]; have := hjr.1; have := hjr.2; omega)]
      by_cases e : i = j
      · subst e; rw [if_pos rfl]
      · rw [if_neg (by have := h.ne i j (by omega) (by omega); have := hir.1; have := hjr.1; omega)]
        exact ih (by omega) (by omega)
  exact this g (Nat.le_refl _) hi
theorem zl_of {np g : Nat} {grp : List Int} (h : Grp np g grp) (p : Nat) (hp : p < np) (h0 : 0 ≤ (zl grp np g).getD p 0) : ∃ i, i < g ∧ grp.getD i 0 = p := by
  by_cases e : ∃ i, i < g ∧ grp.getD i 0 = p
  · exact e
  · have := zl_neg grp np g p hp h.inr (fun i hi he => e ⟨i, hi, he⟩)
    omega
/-- -1 in the first k places. -/
def minus (np k : Nat) : List Int := (List.range np).map (fun i => if i < k then -1 else 0)
theorem minus_len (np k : Nat) : (minus np k).length = np := by simp [minus]
theorem minus_zero (np : Nat) : minus np 0 = List.replicate np 0 := by
  apply List.ext_getElem (by simp [minus])
  intro i h1 h2
  simp [minus]
theorem minus_all (np : Nat) : minus np np = List.replicate np (-1) := by
  apply List.ext_getElem (by simp [minus])
  intro i h1 h2
  simp [minus] at h1 ⊢
  omega
theorem minus_succ (np k : Nat) (hk : k < np) : (minus np k).set k (-1) = minus np (k + 1) := by
  apply List.ext_getElem (by simp [minus])
  intro i h1 h2
  rw [List.getElem_set]
  simp [minus]
  split
  · rename_i e; subst e; simp
  · rename_i e
    by_cases h : i < k
    · rw [if_pos h, if_pos (by omega)]
    · rw [if_neg h, if_neg (by omega)]

def LocalSays (np g : Nat) (grp : List Int) (w : World) (e : Ending) (w' : World) : Prop :=
  Below w.heap.size w w' ∧ ∃ (v : Value) (β : Bool), e = .returned (.tuple #[v, .bool β]) ∧ (β = true → Grp np g grp ∧ ∃ L, v = .slice (some ⟨L, 0, none⟩) np np ∧ IArr w' L (zl grp np g))

set_option maxHeartbeats 2000000 in
theorem local_any (ag : Option Addr) (cg : Nat) (grp : List Int) (np g : Nat) (w : World) (hnp : np ≤ 5000) (hgl : g ≤ 5000) (hgg : grp.length = g) (h1 : Ints w ag grp) :
    Calls Try.prog 31 #[.int .i64 np, .slice ag g cg] w (LocalSays np g grp w) := by
  have hmk := make_ints np (by omega)
  obtain ⟨b5, off5, hix5, hcell5⟩ := ints_open h1
  rw [hgg] at hix5 hcell5
  have HC5 : Hid (∀ j, j < g → w.cell? ⟨b5, off5 + j, none⟩ = some (.int .i64 (grp.getD j 0))) := hcell5
  have HX5 : Hid (∀ (k : Nat) (w' : World), k < g → (Instr.indexAt 23 (.slice ag g cg) (.int .i64 k)).run Try.prog w' = .ok (.pointer (some ⟨b5, off5 + k, none⟩)) w') := fun k w' h => hix5 cg k w' h
  have HXL : Hid (∀ (k : Nat) (w' : World), k < np → (Instr.indexAt 23 (.slice (some ⟨w.heap.size, 0, none⟩) np np) (.int .i64 k)).run Try.prog w' = .ok (.pointer (some ⟨w.heap.size, k, none⟩)) w') :=
    fun k w' hk => by simpa using indexAt_one Try.underlying23 Try.info3 w.heap.size 0 _ np k hk w'
  clear hcell5 hix5 h1 hgg
  go_enter Try.func31, Try.ntmps31
  go_wp2
  clear hmk
  go_loopw [7] (fun v wr => ∃ k : Nat, k ≤ np ∧ v = .int .i64 k ∧ IArr wr w.heap.size (minus np k) ∧ Below w.heap.size w wr) (fun v _ => np - (intOf v).toNat)
  case atStart => exact ⟨0, Nat.zero_le _, rfl, by rw [minus_zero]; exact IArr.made w np, (Below.refl _ _).alloc (Nat.le_refl _) _⟩
  case round =>
    obtain ⟨k, hk, rfl, hA, hbel⟩ := hrel
    by_cases hlt : k < np
    · have gg := hA.cell k (by rw [minus_len]; exact hlt)
      have ff := hA.frozen k
      have hset := hA.set k (-1)
      rw [minus_succ np k hlt] at hset
      have HS : Hid (IArr (wr.setCell ⟨w.heap.size, k, none⟩ (.int .i64 (-1))) w.heap.size (minus np (k + 1)) ∧ Below w.heap.size w (wr.setCell ⟨w.heap.size, k, none⟩ (.int .i64 (-1)))) := ⟨hset, hbel.setCell (Nat.le_refl _) _⟩
      have hx := fun w' => HXL.out k w' hlt
      clear hset hA hbel
      generalize (minus np k).getD k 0 = old at gg
      go_wp2
      go_roundw
      case rel => exact ⟨k + 1, hlt, by go_num, HS.out.1, HS.out.2⟩
      case measure => simp [intOf]; omega
    · have e : k = np := by omega
      subst e
      rw [minus_all] at hA
      have HA : Hid (IArr wr w.heap.size (zl grp k 0) ∧ Below w.heap.size w wr) := ⟨hA, hbel⟩
      clear hA hbel
      go_wp2
      go_loopw [8] (fun v wq => ∃ j : Nat, j ≤ g ∧ v = .int .i64 j ∧ Grp k j grp ∧ IArr wq w.heap.size (zl grp k j) ∧ Below w.heap.size w wq) (fun v _ => g - (intOf v).toNat)
      case atStart => exact ⟨0, Nat.zero_le _, rfl, ⟨fun j hj => by omega, fun i j _ hj => by omega⟩, HA.out.1, HA.out.2⟩
      case round =>
        clear HA
        obtain ⟨j, hj, rfl, hG, hA, hbel⟩ := hrel
        have HG : Hid (Grp k j grp) := hG
        have HA : Hid (IArr wr w.heap.size (zl grp k j)) := hA
        by_cases hjg : j < g
        · have g5 : wr.cell? ⟨b5, off5 + j, none⟩ = some (.int .i64 (grp.getD j 0)) := cell_later hbel (HC5.out j hjg)
          have hx5 := fun w' => HX5.out j w' hjg
          have HB : Hid (Below w.heap.size w wr) := hbel
          clear hG hA hbel
          by_cases c1 : grp.getD j 0 < 0
          · generalize grp.getD j 0 = x at *
            go_wp2
            go_ret2
            exact ⟨HB.out, _, _, rfl, fun h => by simp at h⟩
          · by_cases c2 : (k : Int) ≤ grp.getD j 0
            · generalize grp.getD j 0 = x at *
              go_wp2
              go_ret2
              exact ⟨HB.out, _, _, rfl, fun h => by simp at h⟩
            · obtain ⟨p, hp⟩ : ∃ p : Nat, grp.getD j 0 = p := ⟨(grp.getD j 0).toNat, by omega⟩
              have hpk : p < k := by omega
              have gL := HA.out.cell p (by rw [zl_len]; exact hpk)
              have fL := HA.out.frozen p
              have hxL := fun w' => HXL.out p w' hpk
              have hset := HA.out.set p j
              have elo : (zl grp k j).set p j = zl grp k (j + 1) := by show _ = (zl grp k j).set (grp.getD j 0).toNat j; rw [hp, Int.toNat_natCast]
              rw [elo] at hset
              have HS : Hid (IArr (wr.setCell ⟨w.heap.size, p, none⟩ (.int .i64 j)) w.heap.size (zl grp k (j + 1)) ∧ Below w.heap.size w (wr.setCell ⟨w.heap.size, p, none⟩ (.int .i64 j))) := ⟨hset, HB.out.setCell (Nat.le_refl _) _⟩
              have HG2 : Hid ((zl grp k j).getD p 0 < 0 → Grp k (j + 1) grp) := fun h0 => by
                refine ⟨fun i hi => ?_, fun i i' h1 h2 => ?_⟩
                · by_cases e : i = j
                  · subst e; rw [hp]; exact ⟨by omega, by omega⟩
                  · exact HG.out.inr i (by omega)
                · by_cases e : i' = j
                  · subst e
                    intro e2
                    have := zl_nonneg grp k i' HG.out.inr i h1
                    rw [e2, hp, Int.toNat_natCast] at this
                    omega
                  · exact HG.out.ne i i' h1 (by omega)
              rw [hp] at g5
              clear hset elo hp c1 c2
              generalize (zl grp k j).getD p 0 = old at *
              by_cases c3 : 0 ≤ old
              · go_wp2
                go_ret2
                exact ⟨HB.out, _, _, rfl, fun h => by simp at h⟩
              · have HG3 := HG2.out (by omega)
                have HG3 : Hid (Grp k (j + 1) grp) := HG3
                clear HG2
                go_wp2
                go_roundw
                case rel => exact ⟨j + 1, hjg, by go_num, HG3.out, HS.out.1, HS.out.2⟩
                case measure => simp [intOf]; omega
        · have e : j = g := by omega
          subst e
          clear hG hA
          go_wp2
          go_ret2
          exact ⟨hbel, _, _, rfl, fun _ => ⟨HG.out, _, rfl, HA.out⟩⟩

/-! ### zzClosed -/
def ClosedG (g : Nat) (grp ls pr sd zs : List Int) : Prop := ∀ j i : Nat, j < g → ls.getD (grp.getD j 0).toNat 0 ≤ i → (i : Int) < ls.getD ((grp.getD j 0).toNat + 1) 0 → 0 ≤ sd.getD i 0 → pr.getD (sd.getD i 0).toNat 0 ≠ grp.getD j 0 → 0 ≤ zs.getD (pr.getD (sd.getD i 0).toNat 0).toNat 0

set_option maxHeartbeats 4000000 in
theorem closed_any (ag a2 a3 a4 al : Option Addr) (cg c2 c3 c4 cl : Nat) (grp ls pr sd zs : List Int) (np n g : Nat) (w : World) (hn : n ≤ 5000) (hnp : np ≤ 5000) (hgl : g ≤ 5000) (hgg : grp.length = g) (hgr : ∀ j, j < g → InR np (grp.getD j 0)) (hSh : Shape np n ls pr sd) (hpr : ∀ i, i < n → InR np (pr.getD i 0)) (hzl : zs.length = np)
    (h1 : Ints w ag grp) (h2 : Ints w a2 ls) (h3 : Ints w a3 pr) (h4 : Ints w a4 sd) (h5 : Ints w al zs) :
    Calls Try.prog 32 #[.slice ag g cg, .slice a2 ls.length c2, .slice a3 pr.length c3, .slice a4 sd.length c4, .slice al np cl] w (SaysIf (ClosedG g grp ls pr sd zs) w) := by
  obtain ⟨b1, off1, hix1, hcell1⟩ := ints_open h1
  obtain ⟨b2, off2, hix2, hcell2⟩ := ints_open h2
  obtain ⟨b3, off3, hix3, hcell3⟩ := ints_open h3
  obtain ⟨b4, off4, hix4, hcell4⟩ := ints_open h4
  obtain ⟨b5, off5, hix5, hcell5⟩ := ints_open h5
  have hpl := hSh.plen
  have hsl := hSh.senders.len
  have hll := hSh.lanes.len
  rw [hgg] at hix1 hcell1
  rw [hll] at hix2 hcell2
  rw [hpl] at hix3 hcell3
  rw [hsl] at hix4 hcell4
  rw [hzl] at hix5 hcell5
  have HSh : Hid (Shape np n ls pr sd) := hSh
  have HC1 : Hid (∀ j, j < g → w.cell? ⟨b1, off1 + j, none⟩ = some (.int .i64 (grp.getD j 0))) := hcell1
  have HC2 : Hid (∀ j, j < np + 1 → w.cell? ⟨b2, off2 + j, none⟩ = some (.int .i64 (ls.getD j 0))) := hcell2
  have HC3 : Hid (∀ j, j < n → w.cell? ⟨b3, off3 + j, none⟩ = some (.int .i64 (pr.getD j 0))) := hcell3
  have HC4 : Hid (∀ j, j < n → w.cell? ⟨b4, off4 + j, none⟩ = some (.int .i64 (sd.getD j 0))) := hcell4
  have HC5 : Hid (∀ j, j < np → w.cell? ⟨b5, off5 + j, none⟩ = some (.int .i64 (zs.getD j 0))) := hcell5
  have HX1 : Hid (∀ (k : Nat) (w' : World), k < g → (Instr.indexAt 23 (.slice ag g cg) (.int .i64 k)).run Try.prog w' = .ok (.pointer (some ⟨b1, off1 + k, none⟩)) w') := fun k w' h => hix1 cg k w' h
  have HX2 : Hid (∀ (k : Nat) (w' : World), k < np + 1 → (Instr.indexAt 23 (.slice a2 (np + 1) c2) (.int .i64 k)).run Try.prog w' = .ok (.pointer (some ⟨b2, off2 + k, none⟩)) w') := fun k w' h => hix2 c2 k w' h
  have HX3 : Hid (∀ (k : Nat) (w' : World), k < n → (Instr.indexAt 23 (.slice a3 n c3) (.int .i64 k)).run Try.prog w' = .ok (.pointer (some ⟨b3, off3 + k, none⟩)) w') := fun k w' h => hix3 c3 k w' h
  have HX4 : Hid (∀ (k : Nat) (w' : World), k < n → (Instr.indexAt 23 (.slice a4 n c4) (.int .i64 k)).run Try.prog w' = .ok (.pointer (some ⟨b4, off4 + k, none⟩)) w') := fun k w' h => hix4 c4 k w' h
  have HX5 : Hid (∀ (k : Nat) (w' : World), k < np → (Instr.indexAt 23 (.slice al np cl) (.int .i64 k)).run Try.prog w' = .ok (.pointer (some ⟨b5, off5 + k, none⟩)) w') := fun k w' h => hix5 cl k w' h
  have HGR : Hid (∀ j, j < g → InR np (grp.getD j 0)) := hgr
  have HPR : Hid (∀ i, i < n → InR np (pr.getD i 0)) := hpr
  rw [hpl, hsl, hll]
  clear hcell1 hcell2 hcell3 hcell4 hcell5 hix1 hix2 hix3 hix4 hix5 h1 h2 h3 h4 h5 hSh hpl hsl hll hgr hpr hgg hzl
  go_enter Try.func32, Try.ntmps32
  go_wp2
  go_loopw [11] (fun v wr => ∃ j : Nat, j ≤ g ∧ v = .int .i64 j ∧ ClosedG j grp ls pr sd zs ∧ Below w.heap.size w wr) (fun v _ => g - (intOf v).toNat)
  case atStart => exact ⟨0, Nat.zero_le _, rfl, fun j i hj => by omega, Below.refl _ _⟩
  case round =>
    obtain ⟨j, hj, rfl, hcl, hbel⟩ := hrel
    have HCL : Hid (ClosedG j grp ls pr sd zs) := hcl
    clear hcl
    by_cases hlt : j < g
    · have hgj := HGR.out j hlt
      obtain ⟨p, hp⟩ : ∃ p : Nat, grp.getD j 0 = p := ⟨(grp.getD j 0).toNat, by have := hgj.1; omega⟩
      have hpn : p < np := by have := hgj.2; omega
      have g1 : wr.cell? ⟨b1, off1 + j, none⟩ = some (.int .i64 p) := by rw [← hp]; exact cell_later hbel (HC1.out j hlt)
      have hx1 := fun w' => HX1.out j w' hlt
      have r1 := HSh.out.lanes.lo p (by omega)
      have r2 := HSh.out.lanes.up p hpn
      have r3 := HSh.out.lanes.hi (p + 1) (by omega)
      obtain ⟨x, hx⟩ := Int.eq_ofNat_of_zero_le r1
      obtain ⟨y, hy⟩ := Int.eq_ofNat_of_zero_le (Int.le_trans r1 r2)
      have g2 : wr.cell? ⟨b2, off2 + p, none⟩ = some (.int .i64 x) := by rw [← show ls.getD p 0 = (x : Int) from hx]; exact cell_later hbel (HC2.out p (by omega))
      have hx2 := fun w' => HX2.out p w' (by omega)
      have HY : Hid (∀ w', Below w.heap.size w w' → w'.cell? ⟨b2, off2 + (p + 1), none⟩ = some (.int .i64 y)) := fun w' hb => by rw [← show ls.getD (p + 1) 0 = (y : Int) from hy]; exact cell_later hb (HC2.out (p + 1) (by omega))
      have hx2' : ∀ w', (Instr.indexAt 23 (.slice a2 (np + 1) c2) (.int .i64 (p + 1))).run Try.prog w' = .ok (.pointer (some ⟨b2, off2 + (p + 1), none⟩)) w' := fun w' => by simpa using HX2.out (p + 1) w' (by omega)
      have HEnd : Hid ((∀ i : Nat, x ≤ i → i < y → 0 ≤ sd.getD i 0 → pr.getD (sd.getD i 0).toNat 0 ≠ p → 0 ≤ zs.getD (pr.getD (sd.getD i 0).toNat 0).toNat 0) → ClosedG (j + 1) grp ls pr sd zs) := fun h j' i hj' e1 e2 e3 e4 => by
        by_cases e : j' = j
        · subst e
          rw [hp, Int.toNat_natCast] at e1 e2
          rw [hx] at e1
          rw [hy] at e2
          rw [hp] at e4
          exact h i (by omega) (by omega) e3 e4
        · exact HCL.out j' i (by omega) e1 e2 e3 e4
      rw [hx] at r2
      rw [hy] at r2 r3
      clear r1 hx hy hp hgj
      go_wp2
      go_loopw [13] (fun v wq => ∃ i : Nat, x ≤ i ∧ i ≤ y ∧ v = .int .i64 i ∧ (∀ i' : Nat, x ≤ i' → i' < i → 0 ≤ sd.getD i' 0 → pr.getD (sd.getD i' 0).toNat 0 ≠ p → 0 ≤ zs.getD (pr.getD (sd.getD i' 0).toNat 0).toNat 0) ∧ Below w.heap.size w wq) (fun v _ => y - (intOf v).toNat)
      case atStart => exact ⟨x, Nat.le_refl _, by omega, rfl, fun i h1 h2 => by omega, hbel⟩
      case round =>
        clear g1 hx1 g2 hx2 hbel
        obtain ⟨i, hi1, hi2, rfl, hin, hbel⟩ := hrel
        have gy := HY.out _ hbel
        by_cases hiy : i < y
        · have hIn : i < n := by omega
          have g4 : wr.cell? ⟨b4, off4 + i, none⟩ = some (.int .i64 (sd.getD i 0)) := cell_later hbel (HC4.out i hIn)
          have hx4 := fun w' => HX4.out i w' hIn
          have HStep : Hid ((0 ≤ sd.getD i 0 → pr.getD (sd.getD i 0).toNat 0 ≠ p → 0 ≤ zs.getD (pr.getD (sd.getD i 0).toNat 0).toNat 0) → (∀ i' : Nat, x ≤ i' → i' < i + 1 → 0 ≤ sd.getD i' 0 → pr.getD (sd.getD i' 0).toNat 0 ≠ p → 0 ≤ zs.getD (pr.getD (sd.getD i' 0).toNat 0).toNat 0)) := fun h i' e1 e2 e3 e4 => by
            by_cases e : i' = i
            · subst e; exact h e3 e4
            · exact hin i' e1 (by omega) e3 e4
          have HB : Hid (Below w.heap.size w wr) := hbel
          clear hin hbel
          by_cases hs : sd.getD i 0 < 0
          · have HS := HStep.out (fun h => by omega)
            have HS : Hid _ := HS
            clear HStep
            generalize sd.getD i 0 = sv at *
            go_wp2
            go_roundw
            case rel => exact ⟨i + 1, by omega, by omega, by go_num, HS.out, HB.out⟩
            case measure => simp [intOf]; omega
          · obtain ⟨S, hS⟩ : ∃ S : Nat, sd.getD i 0 = S := ⟨(sd.getD i 0).toNat, by omega⟩
            have hSn : S < n := by have := HSh.out.senders.lt i hIn; omega
            have g3 : wr.cell? ⟨b3, off3 + S, none⟩ = some (.int .i64 (pr.getD S 0)) := cell_later HB.out (HC3.out S hSn)
            have hx3 := fun w' => HX3.out S w' hSn
            have hpS := HPR.out S hSn
            obtain ⟨q, hq⟩ : ∃ q : Nat, pr.getD S 0 = q := ⟨(pr.getD S 0).toNat, by have := hpS.1; omega⟩
            have hqn : q < np := by have := hpS.2; omega
            have g5 : wr.cell? ⟨b5, off5 + q, none⟩ = some (.int .i64 (zs.getD q 0)) := cell_later HB.out (HC5.out q hqn)
            have hx5 := fun w' => HX5.out q w' hqn
            have HStep2 : Hid (((q : Int) ≠ p → 0 ≤ zs.getD q 0) → (∀ i' : Nat, x ≤ i' → i' < i + 1 → 0 ≤ sd.getD i' 0 → pr.getD (sd.getD i' 0).toNat 0 ≠ p → 0 ≤ zs.getD (pr.getD (sd.getD i' 0).toNat 0).toNat 0)) := fun h => HStep.out (fun _ e => by
              rw [hS, Int.toNat_natCast, hq] at e ⊢
              rw [Int.toNat_natCast]
              exact h e)
            rw [hS] at g4
            rw [hq] at g3
            clear HStep hs hS hq hpS
            by_cases c1 : (q : Int) = p
            · have HS := HStep2.out (fun h => absurd c1 h)
              have HS : Hid _ := HS
              have c1b : ((q : Int) != (p : Int)) = false := by simpa using c1
              clear HStep2 c1
              go_wp2
              go_roundw
              case rel => exact ⟨i + 1, by omega, by omega, by go_num, HS.out, HB.out⟩
              case measure => simp [intOf]; omega
            · have c1b : ((q : Int) != (p : Int)) = true := by simpa using c1
              by_cases c2 : zs.getD q 0 < 0
              · generalize zs.getD q 0 = z at *
                clear c1
                go_wp2
                go_ret
                exact SaysIf.no HB.out
              · have HS := HStep2.out (fun _ => by omega)
                have HS : Hid _ := HS
                clear HStep2 c1
                generalize zs.getD q 0 = z at *
                go_wp2
                go_roundw
                case rel => exact ⟨i + 1, by omega, by omega, by go_num, HS.out, HB.out⟩
                case measure => simp [intOf]; omega
        · have e : i = y := by omega
          subst e
          have HEnd2 : Hid (ClosedG (j + 1) grp ls pr sd zs) := HEnd.out (fun i' e1 e2 => hin i' e1 e2)
          clear hin HEnd
          go_wp2
          go_roundw
          case rel => exact ⟨j + 1, hlt, by go_num, HEnd2.out, hbel⟩
          case measure => simp [intOf]; omega
    · have e : j = g := by omega
      subst e
      go_wp2
      go_ret
      exact SaysIf.yes HCL.out hbel

/-! ### zzCutSpace -/
def mOf (grp ls : List Int) (j : Nat) : Nat := (ls.getD ((grp.getD j 0).toNat + 1) 0 - ls.getD (grp.getD j 0).toNat 0).toNat
theorem pf_snoc' (fr : Nat → Nat) (j k : Nat) : pf fr j (k + 1) = pf fr j k * (fr (j + k) + 1) := by
  induction k generalizing j with
  | zero => simp [pf]
  | succ k ih =>
    have h1 : pf fr j (k + 1 + 1) = (fr j + 1) * pf fr (j + 1) (k + 1) := rfl
    have h2 : pf fr j (k + 1) = (fr j + 1) * pf fr (j + 1) k := rfl
    rw [h1, ih (j + 1), h2, Nat.mul_assoc, show j + 1 + k = j + (k + 1) by omega]
def SpaceSays (m : Nat → Nat) (g : Nat) (w : World) (e : Ending) (w' : World) : Prop :=
  Below w.heap.size w w' ∧ ∃ x : Int, e = .returned (.int .i64 x) ∧ (x < 0 ∨ (x = (pf m 0 g : Nat) ∧ x ≤ 4096))

set_option maxHeartbeats 4000000 in
theorem cutSpace_any (ag a2 : Option Addr) (cg c2 : Nat) (grp ls : List Int) (np n g : Nat) (w : World) (hn : n ≤ 5000) (hnp : np ≤ 5000) (hgl : g ≤ 5000) (hgg : grp.length = g) (hgr : ∀ j, j < g → InR np (grp.getD j 0)) (hL : Lanes np n ls) (h1 : Ints w ag grp) (h2 : Ints w a2 ls) :
    Calls Try.prog 33 #[.slice ag g cg, .slice a2 ls.length c2] w (SpaceSays (mOf grp ls) g w) := by
  obtain ⟨b1, off1, hix1, hcell1⟩ := ints_open h1
  obtain ⟨b2, off2, hix2, hcell2⟩ := ints_open h2
  have hll := hL.len
  rw [hgg] at hix1 hcell1
  rw [hll] at hix2 hcell2
  have HL : Hid (Lanes np n ls) := hL
  have HC1 : Hid (∀ j, j < g → w.cell? ⟨b1, off1 + j, none⟩ = some (.int .i64 (grp.getD j 0))) := hcell1
  have HC2 : Hid (∀ j, j < np + 1 → w.cell? ⟨b2, off2 + j, none⟩ = some (.int .i64 (ls.getD j 0))) := hcell2
  have HX1 : Hid (∀ (k : Nat) (w' : World), k < g → (Instr.indexAt 23 (.slice ag g cg) (.int .i64 k)).run Try.prog w' = .ok (.pointer (some ⟨b1, off1 + k, none⟩)) w') := fun k w' h => hix1 cg k w' h
  have HX2 : Hid (∀ (k : Nat) (w' : World), k < np + 1 → (Instr.indexAt 23 (.slice a2 (np + 1) c2) (.int .i64 k)).run Try.prog w' = .ok (.pointer (some ⟨b2, off2 + k, none⟩)) w') := fun k w' h => hix2 c2 k w' h
  have HGR : Hid (∀ j, j < g → InR np (grp.getD j 0)) := hgr
  rw [hll]
  clear hcell1 hcell2 hix1 hix2 h1 h2 hL hll hgr hgg
  go_enter Try.func33, Try.ntmps33
  go_wp2
  go_loopw [5, 6] (fun v5 v6 wr => ∃ j : Nat, j ≤ g ∧ v6 = .int .i64 j ∧ v5 = .int .i64 (pf (mOf grp ls) 0 j : Nat) ∧ pf (mOf grp ls) 0 j ≤ 4096 ∧ Below w.heap.size w wr) (fun _ v6 _ => g - (intOf v6).toNat)
  case atStart => exact ⟨0, Nat.zero_le _, rfl, rfl, by simp [pf], Below.refl _ _⟩
  case round =>
    obtain ⟨j, hj, rfl, rfl, hle, hbel⟩ := hrel
    by_cases hlt : j < g
    · have hgj := HGR.out j hlt
      obtain ⟨p, hp⟩ : ∃ p : Nat, grp.getD j 0 = p := ⟨(grp.getD j 0).toNat, by have := hgj.1; omega⟩
      have hpn : p < np := by have := hgj.2; omega
      have g1 : wr.cell? ⟨b1, off1 + j, none⟩ = some (.int .i64 p) := by rw [← hp]; exact cell_later hbel (HC1.out j hlt)
      have hx1 := fun w' => HX1.out j w' hlt
      have r1 := HL.out.lo p (by omega)
      have r2 := HL.out.up p hpn
      have r3 := HL.out.hi (p + 1) (by omega)
      obtain ⟨x, hx⟩ := Int.eq_ofNat_of_zero_le r1
      obtain ⟨y, hy⟩ := Int.eq_ofNat_of_zero_le (Int.le_trans r1 r2)
      have g2 : wr.cell? ⟨b2, off2 + p, none⟩ = some (.int .i64 x) := by rw [← show ls.getD p 0 = (x : Int) from hx]; exact cell_later hbel (HC2.out p (by omega))
      have hx2 := fun w' => HX2.out p w' (by omega)
      have gy : wr.cell? ⟨b2, off2 + (p + 1), none⟩ = some (.int .i64 y) := by rw [← show ls.getD (p + 1) 0 = (y : Int) from hy]; exact cell_later hbel (HC2.out (p + 1) (by omega))
      have hx2' : ∀ w', (Instr.indexAt 23 (.slice a2 (np + 1) c2) (.int .i64 (p + 1))).run Try.prog w' = .ok (.pointer (some ⟨b2, off2 + (p + 1), none⟩)) w' := fun w' => by simpa using HX2.out (p + 1) w' (by omega)
      have HM : Hid (mOf grp ls j = y - x) := (by unfold Hid mOf; rw [hp, Int.toNat_natCast, hx, hy]; omega)
      rw [hx] at r2
      rw [hy] at r2 r3
      have HPS : Hid (pf (mOf grp ls) 0 (j + 1) = pf (mOf grp ls) 0 j * (y - x + 1)) := (by unfold Hid; rw [pf_snoc', Nat.zero_add, HM.out])
      clear r1 hx hy hp hgj
      generalize pf (mOf grp ls) 0 j = L at *
      have hmb : L * (y - x + 1) ≤ 4096 * 5001 := Nat.mul_le_mul hle (by omega)
      have hcast : (L : Int) * ((y : Int) - (x : Int) + 1) = ((L * (y - x + 1) : Nat) : Int) := by rw [Int.natCast_mul]; congr 1; omega
      have hw1 : IntKind.i64.wrap ((p : Int) + 1) = (p : Int) + 1 := by rw [IntKind.wrap_i64]; omega
      have hw2 : IntKind.i64.wrap ((y : Int) - (x : Int)) = (y : Int) - (x : Int) := by rw [IntKind.wrap_i64]; omega
      have hw3 : IntKind.i64.wrap ((y : Int) - (x : Int) + 1) = (y : Int) - (x : Int) + 1 := by rw [IntKind.wrap_i64]; omega
      have hw4 : IntKind.i64.wrap ((L : Int) * ((y : Int) - (x : Int) + 1)) = ((L * (y - x + 1) : Nat) : Int) := by rw [hcast, IntKind.wrap_i64]; omega
      have HPS2 : Hid (pf (mOf grp ls) 0 (j + 1) = L * (y - x + 1)) := HPS.out
      clear HPS hcast
      generalize L * (y - x + 1) = LL at *
      by_cases hbig : 4096 < LL
      · go_wp2
        go_quiet (fail)
        go_wp2
        go_ret
        exact ⟨below_drewN hbel _, _, rfl, .inl (by omega)⟩
      · go_wp2
        go_quiet (fail)
        go_wp2
        go_roundw
        case rel => exact ⟨j + 1, hlt, by go_num, by rw [HPS2.out], by rw [HPS2.out]; omega, below_drewN hbel _⟩
        case measure => simp [intOf]; omega
    · have e : j = g := by omega
      subst e
      have HLE : Hid (pf (mOf grp ls) 0 j ≤ 4096) := hle
      go_wp2
      go_ret
      exact ⟨hbel, _, rfl, .inr ⟨rfl, by have := HLE.out; omega⟩⟩
end Go.Proofs.Qxb6603214a
