import Derived.Test.Qxb6603214aClone2
import Derived.Test.Qxb6603214aLamp
namespace Go.Proofs.Qxb6603214a
open Go.RowKit
set_option linter.unusedVariables false

theorem Lanes.mono {np n : Nat} {ls : List Int} (h : Lanes np n ls) (p q : Nat) (hpq : p ≤ q) (hq : q ≤ np) : ls.getD p 0 ≤ ls.getD q 0 := by
  induction q with
  | zero => have : p = 0 := by omega
            subst this; omega
  | succ q ih =>
    by_cases e : p = q + 1
    · subst e; omega
    · have h1 := ih (by omega) (by omega)
      have h2 := h.up q (by omega)
      omega
theorem Lanes.lo {np n : Nat} {ls : List Int} (h : Lanes np n ls) (p : Nat) (hp : p ≤ np) : 0 ≤ ls.getD p 0 := by
  have := h.mono 0 p (by omega) hp
  have := h.first
  omega
theorem Lanes.hi {np n : Nat} {ls : List Int} (h : Lanes np n ls) (p : Nat) (hp : p ≤ np) : ls.getD p 0 ≤ n := by
  have := h.mono p np hp (Nat.le_refl _)
  have := h.last
  omega
/-- Where there is an event, event 0 is a lane's first. -/
theorem Lanes.zero {np n : Nat} {ls : List Int} (h : Lanes np n ls) (hn : 0 < n) : Lamp.firstB ls np 0 = true := by
  have key : ∀ k, k ≤ np → 0 < ls.getD k 0 → Lamp.firstB ls k 0 = true := by
    intro k
    induction k with
    | zero => intro _ h0; have := h.first; omega
    | succ k ih =>
      intro hk h0
      rw [Lamp.firstB_succ]
      by_cases e : 0 < ls.getD k 0
      · rw [ih (by omega) e]; simp
      · have hl := h.lo k (by omega)
        have e0 : ls.getD k 0 = 0 := by omega
        rw [e0, decide_eq_true h0]; simp
  exact key np (Nat.le_refl _) (by have := h.last; omega)
theorem Lanes.shape {np n : Nat} {ls sd : List Int} (h : Lanes np n ls) (hs : Senders n sd) : Lamp.Shape n (Lamp.firstB ls np) sd := ⟨h.zero, hs.lt⟩

/-- A row of bools. -/
def BArr (w : World) (g : Nat) (bs : List Bool) : Prop := Arr w g 4 (bs.map Value.bool)
theorem BArr.cell {w : World} {g : Nat} {zs : List Bool} (h : BArr w g zs) (j : Nat) (hj : j < zs.length) : w.cell? ⟨g, j, none⟩ = some (.bool (zs.getD j false)) := by
  rw [Arr.cell h j]; simp [hj]
theorem BArr.frozen {w : World} {g : Nat} {zs : List Bool} (h : BArr w g zs) (j : Nat) : w.frozen? ⟨g, j, none⟩ = false := Arr.frozen h j
theorem BArr.set {w : World} {g : Nat} {zs : List Bool} (h : BArr w g zs) (j : Nat) (v : Bool) : BArr (w.setCell ⟨g, j, none⟩ (.bool v)) g (zs.set j v) := by
  unfold BArr; rw [List.map_set]; exact Arr.set h j _
theorem BArr.set_other {w : World} {g : Nat} {zs : List Bool} (h : BArr w g zs) {a : Addr} (ha : g ≠ a.block) (v : Value) : BArr (w.setCell a v) g zs := Arr.set_other h ha v
theorem BArr.made (w : World) (n : Nat) : BArr (w.alloc (.cells (Array.replicate n (.bool false)) 4)) w.heap.size (List.replicate n false) := by
  have := Arr.new w (Array.replicate n (.bool false)) 4
  unfold BArr
  simpa using this

/-- What zzLamportModel leaves: the fixpoint, in new memory. -/
def ModelMade (n : Nat) (fst : Nat → Bool) (sd : List Int) (w : World) (e : Ending) (w' : World) : Prop :=
  ∃ (g : Nat) (t : List Int), e = .returned (.slice (some ⟨g, 0, none⟩) n n) ∧ IArr w' g t ∧ Lamp.Fix n fst sd t ∧ Below w.heap.size w w'

set_option maxHeartbeats 1000000 in
theorem model_any (a a' : Option Addr) (c c' : Nat) (ls sd : List Int) (np n : Nat) (w : World) (hn : n ≤ 5000) (hnp : np ≤ 5000) (hL : Lanes np n ls) (hS : Senders n sd) (h1 : Ints w a ls) (h2 : Ints w a' sd) :
    Calls Try.prog 16 #[.slice a ls.length c, .slice a' sd.length c', .int .i64 n] w (ModelMade n (Lamp.firstB ls np) sd w) := by
  obtain ⟨b, off, hix, hcell⟩ := ints_open h1
  obtain ⟨b', off', hix', hcell'⟩ := ints_open h2
  clear h1 h2
  have HC : Hid (∀ j, j < ls.length → w.cell? ⟨b, off + j, none⟩ = some (.int .i64 (ls.getD j 0))) := hcell
  have HC' : Hid (∀ j, j < sd.length → w.cell? ⟨b', off' + j, none⟩ = some (.int .i64 (sd.getD j 0))) := hcell'
  clear hcell hcell'
  have hmk := make_ints n (by omega)
  have hmb := make_bools n (by omega)
  have hixT : ∀ (k : Nat) (w' : World), k < n → (Instr.indexAt 23 (.slice (some ⟨w.heap.size, 0, none⟩) n n) (.int .i64 k)).run Try.prog w' = .ok (.pointer (some ⟨w.heap.size, k, none⟩)) w' :=
    fun k w' hk => by simpa using indexAt_one Try.underlying23 Try.info3 w.heap.size 0 _ n k hk w'
  have hixF : ∀ (k : Nat) (w' : World), k < n → (Instr.indexAt 69 (.slice (some ⟨w.heap.size + 1, 0, none⟩) n n) (.int .i64 k)).run Try.prog w' = .ok (.pointer (some ⟨w.heap.size + 1, k, none⟩)) w' :=
    fun k w' hk => by simpa using indexAt_one Try.underlying69 Try.info4 (w.heap.size + 1) 0 _ n k hk w'
  have HLen : Hid (ls.length = np + 1) := hL.len
  have HSen : Hid (sd.length = n) := hS.len
  have hl1 : np < ls.length := by rw [hL.len]; omega
  have hl2 : ls.length ≤ np + 1 := by rw [hL.len]; omega
  go_enter Try.func16, Try.ntmps16
  go_wp2
  go_loopw [9] (fun i wr => ∃ k : Nat, k ≤ np ∧ i = .int .i64 k ∧ IArr wr w.heap.size (List.replicate n 0) ∧ BArr wr (w.heap.size + 1) ((List.range n).map (Lamp.firstB ls k)) ∧ Below w.heap.size w wr) (fun i _ => np - (intOf i).toNat)
  case atStart =>
    refine ⟨0, Nat.zero_le _, rfl, (IArr.made w n).alloc _, ?_, ((Below.refl _ _).alloc (Nat.le_refl _) _).alloc (by simp) _⟩
    have := BArr.made (w.alloc (.cells (Array.replicate n (.int .i64 0)) 3)) n
    have e : (List.range n).map (Lamp.firstB ls 0) = List.replicate n false := by
      apply List.ext_getElem (by simp)
      intro i h1 h2
      simp [Lamp.firstB]
    rw [e]
    simpa using this
  case round =>
    obtain ⟨k, hk, rfl, hT, hF, hbel⟩ := hrel
    by_cases hkn : k < np
    · have hk1 : k < ls.length := by omega
      have hk2 : k + 1 < ls.length := by omega
      have g1 : wr.cell? ⟨b, off + k, none⟩ = some (.int .i64 (ls.getD k 0)) := cell_later hbel (HC.out k hk1)
      have g2 : wr.cell? ⟨b, off + (k + 1), none⟩ = some (.int .i64 (ls.getD (k + 1) 0)) := cell_later hbel (HC.out (k + 1) hk2)
      have hix1 : ∀ w', (Instr.indexAt 23 (.slice a ls.length c) (.int .i64 (k + 1))).run Try.prog w' = .ok (.pointer (some ⟨b, off + (k + 1), none⟩)) w' := fun w' => by simpa using hix c (k + 1) w' hk2
      have hlo := hL.lo k (by omega)
      have hhi := hL.hi (k + 1) (by omega)
      obtain ⟨m, hm⟩ := Int.eq_ofNat_of_zero_le hlo
      by_cases hlt : ls.getD k 0 < ls.getD (k + 1) 0
      · have hst := hF.set m true
        rw [Lamp.firstRow_set ls k n m hlt hm] at hst
        have hmn : m < n := by omega
        have g3 := hF.cell m (by simpa using hmn)
        have g4 := hF.frozen m
        generalize ((List.range n).map (Lamp.firstB ls k)).getD m false = y at g3
        rw [hm] at g1 hlt
        generalize ls.getD (k + 1) 0 = z at *
        have HM : Hid (ls.getD k 0 = m) := hm
        clear hm hlo
        go_wp2
        go_quiet (fail)
        go_wp2
        go_roundw
        case rel => exact ⟨k + 1, by omega, by go_num, hT.set_other (by simp) _, hst, below_drewN (hbel.setCell (by simp) _) _⟩
        case measure => simp [intOf]; omega
      · have hF' := hF
        rw [← Lamp.firstRow_skip ls k n hlt] at hF'
        generalize ls.getD (k + 1) 0 = z at *
        generalize ls.getD k 0 = x at *
        clear hm hlo
        go_wp2
        go_quiet (fail)
        go_wp2
        go_roundw
        case rel => exact ⟨k + 1, by omega, by go_num, hT, hF', below_drewN hbel _⟩
        case measure => simp [intOf]; omega
    · have e : k = np := by omega
      subst e
      go_wp2
      go_loopw [10] (fun i wq => ∃ (q : Nat) (t : List Int), i = .int .i64 q ∧ q ≤ n + 1 ∧ IArr wq w.heap.size t ∧ BArr wq (w.heap.size + 1) ((List.range n).map (Lamp.firstB ls k)) ∧ Below w.heap.size w wq ∧ Lamp.Part n (Lamp.firstB ls k) sd t ∧ q ≤ Lamp.cnt t) (fun i _ => n + 1 - (intOf i).toNat)
      case atStart => exact ⟨0, _, rfl, Nat.zero_le _, hT, hF, hbel, Lamp.part_zero _ _ _, Nat.zero_le _⟩
      case round =>
        obtain ⟨q, t0, rfl, hq, hT0, hF0, hbel0, hP0, hcnt0⟩ := hrel
        have hcl := Lamp.cnt_le t0
        have htl := hP0.len
        have hqn : q ≤ n := by omega
        clear hT hF hbel hcl htl
        go_wp2
        go_loopw [11, 12] (fun ch i ws => ∃ (j : Nat) (t : List Int) (β : Bool), i = .int .i64 j ∧ ch = .bool β ∧ j ≤ n ∧ IArr ws w.heap.size t ∧ BArr ws (w.heap.size + 1) ((List.range n).map (Lamp.firstB ls k)) ∧ Below w.heap.size w ws ∧ Lamp.Part n (Lamp.firstB ls k) sd t ∧ q ≤ Lamp.cnt t ∧ (β = true → q + 1 ≤ Lamp.cnt t) ∧ (β = false → ∀ m, m < j → t.getD m 0 = Lamp.F (Lamp.firstB ls k) sd t m)) (fun _ i _ => n - (intOf i).toNat)
        case atStart => exact ⟨0, t0, false, rfl, rfl, Nat.zero_le _, hT0, hF0, hbel0, hP0, hcnt0, fun h => (by cases h), fun _ m hm => (by omega)⟩
        case round =>
          obtain ⟨j, t, β, rfl, rfl, hj, hTs, hFs, hbels, hP, hcnt, hb1, hb2⟩ := hrel
          by_cases hjn : j < n
          · have hjs : j < sd.length := by rw [HSen.out]; exact hjn
            have gs : wr.cell? ⟨b', off' + j, none⟩ = some (.int .i64 (sd.getD j 0)) := cell_later hbels (HC'.out j hjs)
            have gt := hTs.cell j (by rw [hP.len]; exact hjn)
            have gz := hTs.frozen j
            have gf := hFs.cell j (by simpa using hjn)
            have efst : ((List.range n).map (Lamp.firstB ls k)).getD j false = Lamp.firstB ls k j := by simp [hjn]
            rw [efst] at gf
            have hslt := hS.lt j hjn
            have hcl := Lamp.cnt_le t
            have htl := hP.len
            have hFb := Lamp.F_le hP j
            by_cases ht : t.getD j 0 = 0
            · rw [ht] at gt
              have HT : Hid (t.getD j 0 = 0) := ht
              clear ht efst
              by_cases hfp : Lamp.firstB ls k j = false ∧ t.getD (j - 1) 0 = 0
              · -- the lane predecessor has no time
                have HFz : Hid (Lamp.F (Lamp.firstB ls k) sd t j = 0) := by
                  show Lamp.F (Lamp.firstB ls k) sd t j = 0
                  unfold Lamp.F; rw [if_pos hfp]
                have hj1 : 1 ≤ j := by
                  have := hL.zero (by omega)
                  by_cases e : j = 0
                  · subst e; rw [hfp.1] at this; cases this
                  · omega
                have gy := hTs.cell (j - 1) (by rw [hP.len]; omega)
                have hixm : ∀ w', (Instr.indexAt 23 (.slice (some ⟨w.heap.size, 0, none⟩) n n) (.int .i64 ((j : Int) - 1))).run Try.prog w' = .ok (.pointer (some ⟨w.heap.size, j - 1, none⟩)) w' := fun w' => by
                  have := hixT (j - 1) w' (by omega)
                  rwa [show ((j - 1 : Nat) : Int) = (j : Int) - 1 from by omega] at this
                rw [hfp.1] at gf
                rw [hfp.2] at gy
                clear hfp hslt hFb
                go_wp2
                go_roundw
                case rel => exact ⟨j + 1, t, β, by go_num, rfl, by omega, hTs, hFs, hbels, hP, hcnt, hb1, fun hb m hm => (by
                  by_cases e : m = j
                  · subst e; rw [HT.out, HFz.out]
                  · exact hb2 hb m (by omega))⟩
                case measure => simp [intOf]; omega
              · cases hf : Lamp.firstB ls k j with
                | true =>
                  rw [hf] at gf
                  by_cases hs0 : 0 ≤ sd.getD j 0
                  · obtain ⟨m, hm⟩ := Int.eq_ofNat_of_zero_le hs0
                    have hmn : m < n := by omega
                    have gm := hTs.cell m (by rw [hP.len]; exact hmn)
                    have em : (sd.getD j 0).toNat = m := by omega
                    by_cases hts : t.getD m 0 = 0
                    · have HFz : Hid (Lamp.F (Lamp.firstB ls k) sd t j = 0) := by
                        show Lamp.F (Lamp.firstB ls k) sd t j = 0
                        unfold Lamp.F; rw [if_neg hfp, if_pos ⟨hs0, by rw [em]; exact hts⟩]
                      rw [hts] at gm
                      rw [hm] at gs
                      clear hm hs0 hslt hFb hfp em hts
                      go_wp2
                      go_roundw
                      case rel => exact ⟨j + 1, t, β, by go_num, rfl, by omega, hTs, hFs, hbels, hP, hcnt, hb1, fun hb m hm => (by
                        by_cases e : m = j
                        · subst e; rw [HT.out, HFz.out]
                        · exact hb2 hb m (by omega))⟩
                      case measure => simp [intOf]; omega
                    · have hfz : ¬ (0 ≤ sd.getD j 0 ∧ t.getD (sd.getD j 0).toNat 0 = 0) := by rw [em]; exact fun h => hts h.2
                      have hzb := hP.bound m
                      have hzn := hP.nonneg m
                      by_cases hgt : 0 < t.getD m 0
                      · have HFv : Lamp.F (Lamp.firstB ls k) sd t j = t.getD m 0 + 1 := by
                          unfold Lamp.F; rw [if_neg hfp, if_neg hfz, em]; simp only [hf, if_true]; rw [if_pos ⟨hs0, hgt⟩]
                        rw [hm] at gs
                        generalize t.getD m 0 = z at *
                        have hz0 : (z == 0) = false := by simpa using hts
                        clear hm hs0 hslt hFb hfp em hts hfz
                        have hne : Lamp.F (Lamp.firstB ls k) sd t j ≠ 0 := by rw [HFv]; omega
                        have hPs : Hid (Lamp.Part n (Lamp.firstB ls k) sd (t.set j (z + 1)) ∧ Lamp.cnt (t.set j (z + 1)) = Lamp.cnt t + 1) := by have := hP.step hjn HT.out hne; rw [HFv] at this; exact this
                        have hst := hTs.set j (z + 1)
                        clear HFv hne hP
                        go_wp2
                        go_roundw
                        case rel => exact ⟨j + 1, _, true, by go_num, rfl, by omega, hst, hFs.set_other (by simp) _, hbels.setCell (Nat.le_refl _) _, hPs.out.1, (by rw [hPs.out.2]; omega), (fun _ => by rw [hPs.out.2]; omega), fun hb => (by cases hb)⟩
                        case measure => simp [intOf]; omega
                      · have HFv : Lamp.F (Lamp.firstB ls k) sd t j = 0 + 1 := by
                          unfold Lamp.F; rw [if_neg hfp, if_neg hfz, em]; simp only [hf, if_true]; rw [if_neg (fun h => hgt h.2)]
                        rw [hm] at gs
                        generalize t.getD m 0 = z at *
                        have hz0 : (z == 0) = false := by simpa using hts
                        clear hm hs0 hslt hFb hfp em hts hfz
                        have hne : Lamp.F (Lamp.firstB ls k) sd t j ≠ 0 := by rw [HFv]; omega
                        have hPs : Hid (Lamp.Part n (Lamp.firstB ls k) sd (t.set j (0 + 1)) ∧ Lamp.cnt (t.set j (0 + 1)) = Lamp.cnt t + 1) := by have := hP.step hjn HT.out hne; rw [HFv] at this; exact this
                        have hst := hTs.set j (0 + 1)
                        clear HFv hne hP
                        go_wp2
                        go_roundw
                        case rel => exact ⟨j + 1, _, true, by go_num, rfl, by omega, hst, hFs.set_other (by simp) _, hbels.setCell (Nat.le_refl _) _, hPs.out.1, (by rw [hPs.out.2]; omega), (fun _ => by rw [hPs.out.2]; omega), fun hb => (by cases hb)⟩
                        case measure => simp [intOf]; omega
                  · have HFv : Lamp.F (Lamp.firstB ls k) sd t j = 0 + 1 := by
                      unfold Lamp.F; rw [if_neg hfp, if_neg (fun h => hs0 h.1)]; simp only [hf, if_true]; rw [if_neg (fun h => hs0 h.1)]
                    generalize sd.getD j 0 = sv at *
                    clear hslt hFb hfp
                    have hne : Lamp.F (Lamp.firstB ls k) sd t j ≠ 0 := by rw [HFv]; omega
                    have hPs : Hid (Lamp.Part n (Lamp.firstB ls k) sd (t.set j (0 + 1)) ∧ Lamp.cnt (t.set j (0 + 1)) = Lamp.cnt t + 1) := by have := hP.step hjn HT.out hne; rw [HFv] at this; exact this
                    have hst := hTs.set j (0 + 1)
                    clear HFv hne hP
                    go_wp2
                    go_roundw
                    case rel => exact ⟨j + 1, _, true, by go_num, rfl, by omega, hst, hFs.set_other (by simp) _, hbels.setCell (Nat.le_refl _) _, hPs.out.1, (by rw [hPs.out.2]; omega), (fun _ => by rw [hPs.out.2]; omega), fun hb => (by cases hb)⟩
                    case measure => simp [intOf]; omega
                | false =>
                  rw [hf] at gf
                  have hy0 : t.getD (j - 1) 0 ≠ 0 := fun h => hfp ⟨hf, h⟩
                  have hj1 : 1 ≤ j := by
                    have := hL.zero (by omega)
                    by_cases e : j = 0
                    · subst e; rw [hf] at this; cases this
                    · omega
                  have gy := hTs.cell (j - 1) (by rw [hP.len]; omega)
                  have hixm : ∀ w', (Instr.indexAt 23 (.slice (some ⟨w.heap.size, 0, none⟩) n n) (.int .i64 ((j : Int) - 1))).run Try.prog w' = .ok (.pointer (some ⟨w.heap.size, j - 1, none⟩)) w' := fun w' => by
                    have := hixT (j - 1) w' (by omega)
                    rwa [show ((j - 1 : Nat) : Int) = (j : Int) - 1 from by omega] at this
                  have hyb := hP.bound (j - 1)
                  have hyn := hP.nonneg (j - 1)
                  have hyz : (t.getD (j - 1) 0 == 0) = false := by simpa using hy0
                  generalize hyy : t.getD (j - 1) 0 = y at gy hyb hyn hyz
                  by_cases hs0 : 0 ≤ sd.getD j 0
                  · obtain ⟨m, hm⟩ := Int.eq_ofNat_of_zero_le hs0
                    have hmn : m < n := by omega
                    have gm := hTs.cell m (by rw [hP.len]; exact hmn)
                    have em : (sd.getD j 0).toNat = m := by omega
                    by_cases hts : t.getD m 0 = 0
                    · have HFz : Hid (Lamp.F (Lamp.firstB ls k) sd t j = 0) := by
                        show Lamp.F (Lamp.firstB ls k) sd t j = 0
                        unfold Lamp.F; rw [if_neg hfp, if_pos ⟨hs0, by rw [em]; exact hts⟩]
                      rw [hts] at gm
                      rw [hm] at gs
                      clear hm hs0 hslt hFb hfp em hts
                      go_wp2
                      go_roundw
                      case rel => exact ⟨j + 1, t, β, by go_num, rfl, by omega, hTs, hFs, hbels, hP, hcnt, hb1, fun hb m hm => (by
                        by_cases e : m = j
                        · subst e; rw [HT.out, HFz.out]
                        · exact hb2 hb m (by omega))⟩
                      case measure => simp [intOf]; omega
                    · have hfz : ¬ (0 ≤ sd.getD j 0 ∧ t.getD (sd.getD j 0).toNat 0 = 0) := by rw [em]; exact fun h => hts h.2
                      have hzb := hP.bound m
                      have hzn := hP.nonneg m
                      by_cases hgt : y < t.getD m 0
                      · have HFv : Lamp.F (Lamp.firstB ls k) sd t j = t.getD m 0 + 1 := by
                          unfold Lamp.F; rw [if_neg hfp, if_neg hfz, em]; simp only [hf, hyy, Bool.false_eq_true, if_false]; rw [if_pos ⟨hs0, hgt⟩]
                        rw [hm] at gs
                        generalize t.getD m 0 = z at *
                        have hz0 : (z == 0) = false := by simpa using hts
                        clear hm hs0 hslt hFb hfp em hts hfz
                        have hne : Lamp.F (Lamp.firstB ls k) sd t j ≠ 0 := by rw [HFv]; omega
                        have hPs : Hid (Lamp.Part n (Lamp.firstB ls k) sd (t.set j (z + 1)) ∧ Lamp.cnt (t.set j (z + 1)) = Lamp.cnt t + 1) := by have := hP.step hjn HT.out hne; rw [HFv] at this; exact this
                        have hst := hTs.set j (z + 1)
                        clear HFv hne hP
                        go_wp2
                        go_roundw
                        case rel => exact ⟨j + 1, _, true, by go_num, rfl, by omega, hst, hFs.set_other (by simp) _, hbels.setCell (Nat.le_refl _) _, hPs.out.1, (by rw [hPs.out.2]; omega), (fun _ => by rw [hPs.out.2]; omega), fun hb => (by cases hb)⟩
                        case measure => simp [intOf]; omega
                      · have HFv : Lamp.F (Lamp.firstB ls k) sd t j = y + 1 := by
                          unfold Lamp.F; rw [if_neg hfp, if_neg hfz, em]; simp only [hf, hyy, Bool.false_eq_true, if_false]; rw [if_neg (fun h => hgt h.2)]
                        rw [hm] at gs
                        generalize t.getD m 0 = z at *
                        have hz0 : (z == 0) = false := by simpa using hts
                        clear hm hs0 hslt hFb hfp em hts hfz
                        have hne : Lamp.F (Lamp.firstB ls k) sd t j ≠ 0 := by rw [HFv]; omega
                        have hPs : Hid (Lamp.Part n (Lamp.firstB ls k) sd (t.set j (y + 1)) ∧ Lamp.cnt (t.set j (y + 1)) = Lamp.cnt t + 1) := by have := hP.step hjn HT.out hne; rw [HFv] at this; exact this
                        have hst := hTs.set j (y + 1)
                        clear HFv hne hP
                        go_wp2
                        go_roundw
                        case rel => exact ⟨j + 1, _, true, by go_num, rfl, by omega, hst, hFs.set_other (by simp) _, hbels.setCell (Nat.le_refl _) _, hPs.out.1, (by rw [hPs.out.2]; omega), (fun _ => by rw [hPs.out.2]; omega), fun hb => (by cases hb)⟩
                        case measure => simp [intOf]; omega
                  · have HFv : Lamp.F (Lamp.firstB ls k) sd t j = y + 1 := by
                      unfold Lamp.F; rw [if_neg hfp, if_neg (fun h => hs0 h.1)]; simp only [hf, hyy, Bool.false_eq_true, if_false]; rw [if_neg (fun h => hs0 h.1)]
                    generalize sd.getD j 0 = sv at *
                    clear hslt hFb hfp
                    have hne : Lamp.F (Lamp.firstB ls k) sd t j ≠ 0 := by rw [HFv]; omega
                    have hPs : Hid (Lamp.Part n (Lamp.firstB ls k) sd (t.set j (y + 1)) ∧ Lamp.cnt (t.set j (y + 1)) = Lamp.cnt t + 1) := by have := hP.step hjn HT.out hne; rw [HFv] at this; exact this
                    have hst := hTs.set j (y + 1)
                    clear HFv hne hP
                    go_wp2
                    go_roundw
                    case rel => exact ⟨j + 1, _, true, by go_num, rfl, by omega, hst, hFs.set_other (by simp) _, hbels.setCell (Nat.le_refl _) _, hPs.out.1, (by rw [hPs.out.2]; omega), (fun _ => by rw [hPs.out.2]; omega), fun hb => (by cases hb)⟩
                    case measure => simp [intOf]; omega
            · have HFz : Hid (t.getD j 0 = Lamp.F (Lamp.firstB ls k) sd t j) := hP.ok j hjn ht
              generalize t.getD j 0 = x at gt ht
              have hx : (x != 0) = true := by simpa using ht
              clear hslt hcl htl hFb gs gf gz efst ht
              go_wp2
              go_roundw
              case rel => exact ⟨j + 1, t, β, by go_num, rfl, by omega, hTs, hFs, hbels, hP, hcnt, hb1, fun hb m hm => (by
                by_cases e : m = j
                · subst e; exact HFz.out
                · exact hb2 hb m (by omega))⟩
              case measure => simp [intOf]; omega
          · have e : j = n := by omega
            cases β with
            | true =>
              have hc := hb1 rfl
              go_wp2
              go_roundw
              case rel => exact ⟨q + 1, t, by go_num, by omega, hTs, hFs, hbels, hP, hc⟩
              case measure => simp [intOf]; omega
            | false =>
              have HB : Hid (∀ m, m < j → t.getD m 0 = Lamp.F (Lamp.firstB ls k) sd t m) := hb2 rfl
              clear hb1 hb2
              go_wp2
              go_ret
              exact ⟨_, t, rfl, hTs, hP.fix (fun m hm h0 => by rw [← HB.out m (by omega)]; exact h0), hbels⟩
end Go.Proofs.Qxb6603214a
