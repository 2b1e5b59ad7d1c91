import Derived.Test.Qxb6603214aNCI
import Derived.BigRegion
import Derived.Test.Qxb6603214aDrw
namespace Go.Proofs.Qxb6603214a
open Go.RowKit Go.Maps
set_option linter.unusedVariables false

theorem make_rows (n : Nat) (hn : n ≤ 1000000) (w : World) :
    (Instr.makeSlice 39 (.int .i64 n) (.int .i64 n)).run Try.prog w = .ok (.slice (some ⟨w.heap.size, 0, none⟩) n n) (w.alloc (.cells (Array.replicate n (.slice none 0 0)) 23)) :=
  make_one Try.underlying39 Try.info23 rfl n (by omega) (by omega) w

/-- What the counter's set-up leaves. -/
def CStart (w : World) (np : Nat) (rp : Value) (v3 : Value) (wc : World) : Prop :=
  ∃ C Ge Mb T tg, v3 = .pointer (some ⟨C, 0, none⟩) ∧ CMem [] w wc C Ge Mb T np 0 rp (List.replicate np 0) (fun _ => .pointer none) (fun _ => .slice none 0 0) ls0.tk ls0.pres ls0.rc ls0.sn tg

theorem made_at {w : World} {n g : Nat} (hg : g = w.heap.size) : IArr (w.alloc (.cells (Array.replicate n (.int .i64 0)) 3)) g (List.replicate n 0) := by
  subst hg; exact IArr.made w n
theorem rows_at {w : World} {n g : Nat} (hg : g = w.heap.size) : Arr (w.alloc (.cells (Array.replicate n (.slice none 0 0)) 23)) g 23 (List.replicate n (.slice none 0 0)) := by
  subst hg
  have := Arr.new w (Array.replicate n (.slice none 0 0)) 23
  rwa [Array.toList_replicate] at this
theorem map_at {w : World} {g : Nat} (hg : g = w.heap.size) : VMap (w.alloc (.map #[] 0)) 74 g (.pointer none) 0 (fun _ => .pointer none) := by
  subst hg; exact VMap.made w 74 _
theorem cell_at {w : World} {g : Nat} {c : Array Value} (hg : g = w.heap.size) : Arr (w.alloc (.cells c 72)) g 72 c.toList := by
  subst hg; exact Arr.new w c 72
theorem iarr_drew {w : World} {g : Nat} {zs : List Int} (h : IArr w g zs) : IArr w.drew g zs := h
theorem vmap_drew {w : World} {k : TypeId} {b : Nat} {nil : Value} {sz : Nat} {f : Lit → Value} (h : VMap w k b nil sz f) : VMap w.drew k b nil sz f := h
theorem CStart.mk {w wr : World} {C Ge Mb T np : Nat} {rp : Value} (hC : Arr wr C 72 [rp, .slice (some ⟨Ge, 0, none⟩) np np, .map (some Mb), .slice (some ⟨T, 0, none⟩) np np]) (hE : IArr wr Ge (List.replicate np 0)) (hM : VMap wr 74 Mb (.pointer none) 0 (fun _ => .pointer none)) (hT : Arr wr T 23 (List.replicate np (.slice none 0 0)))
    (hne : Ge ≠ C ∧ Mb ≠ C ∧ T ≠ C ∧ Mb ≠ Ge ∧ T ≠ Ge ∧ T ≠ Mb) (hlo : w.heap.size ≤ C ∧ w.heap.size ≤ Ge ∧ w.heap.size ≤ Mb ∧ w.heap.size ≤ T) (hb : Below w.heap.size w wr) : CStart w np rp (.pointer (some ⟨C, 0, none⟩)) wr := by
  obtain ⟨tg, h⟩ := CMem.start hC hE hM hT hne hlo hb
  exact ⟨C, Ge, Mb, T, tg, rfl, h⟩

theorem CMem.linkBelow {w wr w1 : World} {C Ge Mb T np sz : Nat} {rp : Value} {ev : List Int} {f : Lit → Value} {tv : Int → Value} {tk : Int → List Int} {pres : Int → Int → Bool} {rc sn : Int → Int → List Int} {tg : Nat → List Int}
    (h : CMem [] w wr C Ge Mb T np sz rp ev f tv tk pres rc sn tg) {p q : Int} {b : Nat} {vr vs : Value} {l1 l2 : List Int} (hl : LinkAt [] w wr tg p q b vr vs l1 l2) (hg : wr.grownBy w1 vr.ownBlock) : Below w.heap.size w w1 :=
  h.below.grown hg h.below.size (fun k hk => (hl.rtag k hk).2.1)
theorem LinkAt.linkCell {w wr w1 : World} {tg : Nat → List Int} {p q : Int} {b : Nat} {vr vs : Value} {l1 l2 : List Int} (hl : LinkAt [] w wr tg p q b vr vs l1 l2) (hg : wr.grownBy w1 vr.ownBlock) : w1.cell? ⟨b, 0, none⟩ = some vr := by
  have hsame : w1.heap[b]? = wr.heap[b]? := hg.block b hl.lt (fun e => by
    have := (hl.rtag b e.symm).1
    rw [hl.tag] at this
    simp at this)
  rw [((hl.cells (by simp)).same hsame).cell]
  rfl
theorem lsAt_no (pr sd sq : List Int) (k : Nat) (h : crossB pr sd k = false) : lsAt pr sd sq (k + 1) = lsAt pr sd sq k := by
  show lsStep pr sd sq k (lsAt pr sd sq k) = _
  unfold lsStep
  rw [h, if_neg (by simp)]
theorem lsAt_yes (pr sd sq : List Int) (k : Nat) (h : crossB pr sd k = true) : lsAt pr sd sq (k + 1) = ((lsAt pr sd sq k).link (pr.getD k 0) (sendP pr sd k)).note (pr.getD k 0) (sendP pr sd k) (sq.getD k 0) (sq.getD (sd.getD k 0).toNat 0) := by
  show lsStep pr sd sq k (lsAt pr sd sq k) = _
  unfold lsStep
  rw [if_pos h]

set_option maxHeartbeats 40000000 in
set_option maxRecDepth 20000 in
theorem ncc_any (R E np n c0 c2 c3 c4 : Nat) (a0 a2 a3 a4 : Option Addr) (ls pr sd sq : List Int) (w : World) (hn : n ≤ 5000) (hnp : np ≤ 5000) (hL : Lanes np n ls) (hS : Senders n sd) (hpl : pr.length = n) (hpr : ∀ i, i < n → InR np (pr.getD i 0)) (hql : sq.length = n)
    (hrun : RunAt w R (.slice a0 np c0) (.slice a2 ls.length c2) (.slice a3 pr.length c3) (.slice a4 sd.length c4) E sq) (h2 : Ints w a2 ls) (h3 : Ints w a3 pr) (h4 : Ints w a4 sd) :
    Calls Try.prog 38 #[.pointer (some ⟨R, 0, none⟩)] w (NCMade w np (.pointer (some ⟨R, 0, none⟩)) (evTo ls np np) (lsAt pr sd sq n)) := by
  have hmk := make_ints np (by omega)
  have hmr := make_rows np (by omega)
  have hmm := @run_makeMap Try.prog
  have k0 := hrun.c0
  have hRw : R < w.heap.size := World.block_lt_of_cell? w _ k0
  go_enter Try.func38, Try.ntmps38
  go_wp2
  go_cut [3] (fun v3 wc => CStart w np (.pointer (some ⟨R, 0, none⟩)) v3 wc)
  case first =>
    as_aux_lemma =>
      clear h2 h3 h4 hrun
      go_region
      all_goals
        go_wp2_with fail
        go_meet
        refine CStart.mk (cell_at (by simp)) ?_ ?_ ?_ (by omega) (by omega) ?_
        · repeat (first | with_reducible exact made_at (by simp) | with_reducible refine iarr_drew ?_ | with_reducible refine IArr.alloc ?_ _)
        · repeat (first | with_reducible exact map_at (by simp) | with_reducible refine vmap_drew ?_ | with_reducible refine VMap.alloc ?_ _)
        · repeat (first | with_reducible exact rows_at (by simp) | with_reducible refine Arr.drew ?_ | with_reducible refine Arr.alloc ?_ _)
        · have e : Below w.heap.size w w := Below.refl _ _
          exact ((((e.alloc (Nat.le_refl _) _).alloc (by simp) _).alloc (by simp <;> omega) _).alloc (by simp <;> omega) _).drew
  case rest =>
    obtain ⟨C, Ge, Mb, T, tg, rfl, hcut⟩ := hcut
    have HRun : Hid (RunAt w R (.slice a0 np c0) (.slice a2 ls.length c2) (.slice a3 pr.length c3) (.slice a4 sd.length c4) E sq) := hrun
    obtain ⟨b2, off2, hix2, hcell2⟩ := ints_open h2
    have H2 : Hid (∀ j, j < ls.length → w.cell? ⟨b2, off2 + j, none⟩ = some (.int .i64 (ls.getD j 0))) := hcell2
    have H3 : Hid (Ints w a3 pr) := h3
    have H4 : Hid (Ints w a4 sd) := h4
    have HLn : Hid (ls.length = np + 1) := hL.len
    have HPR : Hid (∀ i, i < n → InR np (pr.getD i 0)) := hpr
    have k0' : wc.cell? ⟨R, 0, none⟩ = some (.slice a0 np c0) := cell_later hcut.below k0
    have hNC0 : NC w wc C Ge Mb T np (.pointer (some ⟨R, 0, none⟩)) (evTo ls np 0) ls0 := ⟨_, _, _, by rw [evTo_zero]; exact hcut⟩
    have hixE : ∀ (k : Nat) (w' : World), k < np → (Instr.indexAt 23 (.slice (some ⟨Ge, 0, none⟩) np np) (.int .i64 k)).run Try.prog w' = .ok (.pointer (some ⟨Ge, k, none⟩)) w' :=
      fun k w' hk => by simpa using indexAt_one Try.underlying23 Try.info3 Ge 0 _ np k hk w'
    clear hrun h2 h3 h4 hcell2 hcut hmk hmr hmm k0 hpr
    go_wp2
    go_loopw [33] (fun i wr => ∃ k : Nat, k ≤ np ∧ i = .int .i64 k ∧ NC w wr C Ge Mb T np (.pointer (some ⟨R, 0, none⟩)) (evTo ls np k) ls0) (fun i _ => np - (intOf i).toNat)
    case atStart => exact ⟨0, Nat.zero_le _, rfl, hNC0⟩
    case round =>
      obtain ⟨k, hk, rfl, f, tv, tg1, hM⟩ := hrel
      have kR := HRun.out.below hM.below
      by_cases hlt : k < np
      · have g2 := kR.c2
        have l1 : wr.cell? ⟨b2, off2 + k, none⟩ = some (.int .i64 (ls.getD k 0)) := cell_later hM.below (H2.out k (by have := HLn.out; omega))
        have l2 : wr.cell? ⟨b2, off2 + (k + 1), none⟩ = some (.int .i64 (ls.getD (k + 1) 0)) := cell_later hM.below (H2.out (k + 1) (by have := HLn.out; omega))
        have hx1 : ∀ w', (Instr.indexAt 23 (.slice a2 ls.length c2) (.int .i64 k)).run Try.prog w' = .ok (.pointer (some ⟨b2, off2 + k, none⟩)) w' := fun w' => hix2 c2 k w' (by have := HLn.out; omega)
        have hx2 : ∀ w', (Instr.indexAt 23 (.slice a2 ls.length c2) (.int .i64 (k + 1))).run Try.prog w' = .ok (.pointer (some ⟨b2, off2 + (k + 1), none⟩)) w' := fun w' => by simpa using hix2 c2 (k + 1) w' (by have := HLn.out; omega)
        have hx3 := fun w' => hixE k w' hlt
        have cc1 : wr.cell? ⟨C, 1, none⟩ = some (.slice (some ⟨Ge, 0, none⟩) np np) := by rw [(hM.cc (by simp)).cell]; rfl
        have e1 := (hM.evs (by simp)).cell k (by simp [evTo]; exact hlt)
        have e2 := (hM.evs (by simp)).frozen k
        have hset := (hM.ev k (ls.getD (k + 1) 0 - ls.getD k 0)).drew
        rw [evTo_succ ls np k hlt] at hset
        have r1 := hL.lo k (by omega)
        have r2 := hL.up k hlt
        have r3 := hL.hi (k + 1) (by omega)
        generalize ls.getD k 0 = x at *
        generalize ls.getD (k + 1) 0 = y at *
        generalize (evTo ls np k).getD k 0 = z at e1
        clear hix2 hixE kR hL
        as_aux_lemma =>
          go_wp2
          go_region
          go_wp2
          go_roundw
          case rel => exact ⟨k + 1, hlt, by go_num, f, tv, tg1, hset⟩
          case measure => simp [intOf]; omega
      · have e : k = np := by omega
        subst e
        have HM : Hid (NC w wr C Ge Mb T k (.pointer (some ⟨R, 0, none⟩)) (evTo ls k k) ls0) := ⟨f, tv, tg1, hM⟩
        have g4 := kR.c4
        obtain ⟨b4, off4, hix4, hcell4⟩ := ints_open H4.out
        have HC4 : Hid (∀ j, j < sd.length → w.cell? ⟨b4, off4 + j, none⟩ = some (.int .i64 (sd.getD j 0))) := hcell4
        obtain ⟨b3, off3, hix3, hcell3⟩ := ints_open H3.out
        have HC3 : Hid (∀ j, j < pr.length → w.cell? ⟨b3, off3 + j, none⟩ = some (.int .i64 (pr.getD j 0))) := hcell3
        have HSl : Hid (sd.length = n) := hS.len
        have HSn : Hid (∀ j, j < n → sd.getD j 0 < n) := hS.lt
        have HPl : Hid (pr.length = n) := hpl
        have HQl : Hid (sq.length = n) := hql
        clear hcell4 hcell3 kR hM hNC0 k0' hix2 hixE hL hS hpl hql
        rw [HSl.out] at hix4 g4
        rw [HPl.out] at hix3
        obtain ⟨ev, hev⟩ : ∃ ev, ev = evTo ls k k := ⟨_, rfl⟩
        have HEV : Hid (ev = evTo ls k k) := hev
        rw [← hev] at HM
        clear hev
        go_wp2
        go_loopw [64] (fun i wr => ∃ m : Nat, m ≤ n ∧ i = .int .i64 m ∧ NC w wr C Ge Mb T k (.pointer (some ⟨R, 0, none⟩)) ev (lsAt pr sd sq m)) (fun i _ => n - (intOf i).toNat)
        case atStart => exact ⟨0, Nat.zero_le _, rfl, HM.out⟩
        case round =>
          obtain ⟨m, hm, rfl, f, tv, tg1, hM⟩ := hrel
          have kR := HRun.out.below hM.below
          by_cases hlt : m < n
          · have s1 : wr.cell? ⟨b4, off4 + m, none⟩ = some (.int .i64 (sd.getD m 0)) := cell_later hM.below (HC4.out m (by rw [HSl.out]; exact hlt))
            have g3 := kR.c3
            rw [HPl.out] at g3
            have hx4 := fun w' => hix4 c4 m w' hlt
            have hx3 := fun w' => hix3 c3 m w' hlt
            have HNO : Hid (crossB pr sd m = false → lsAt pr sd sq (m + 1) = lsAt pr sd sq m) := lsAt_no pr sd sq m
            have p1 : wr.cell? ⟨b3, off3 + m, none⟩ = some (.int .i64 (pr.getD m 0)) := cell_later hM.below (HC3.out m (by rw [HPl.out]; exact hlt))
            have hpm := HPR.out m hlt
            obtain ⟨P, hP⟩ : ∃ P : Nat, pr.getD m 0 = P := ⟨(pr.getD m 0).toNat, by have := hpm.1; omega⟩
            rw [hP] at p1 hpm
            have HP : Hid (pr.getD m 0 = P) := hP
            have hPk : P < k := by have := hpm.2; omega
            by_cases h0 : sd.getD m 0 < 0
            · have hcr : crossB pr sd m = false := crossB_neg pr sd m h0
              have HCR : Hid (crossB pr sd m = false) := hcr
              clear hcr
              generalize sd.getD m 0 = sv at *
              have hd : decide (sv < 0) = true := by simpa using h0
              as_aux_lemma =>
                clear hix4 hix3 HM
                go_wp2
                go_quiet (fail)
                go_wp2
                go_roundw
                case rel => exact ⟨m + 1, hlt, by go_num, by rw [HNO.out HCR.out]; exact ⟨f, tv, tg1, hM.drewN _⟩⟩
                case measure => simp [intOf]; omega
            · obtain ⟨S, hSv⟩ : ∃ S : Nat, sd.getD m 0 = S := ⟨(sd.getD m 0).toNat, by omega⟩
              have hSn : S < n := by have := HSn.out m hlt; omega
              have p2 : wr.cell? ⟨b3, off3 + S, none⟩ = some (.int .i64 (pr.getD S 0)) := cell_later hM.below (HC3.out S (by rw [HPl.out]; exact hSn))
              have hx3S := fun w' => hix3 c3 S w' hSn
              have hpS := HPR.out S hSn
              obtain ⟨Qn, hQ⟩ : ∃ Qn : Nat, pr.getD S 0 = Qn := ⟨(pr.getD S 0).toNat, by have := hpS.1; omega⟩
              rw [hQ] at p2 hpS
              have hQk : Qn < k := by have := hpS.2; omega
              rw [hSv] at s1
              clear h0
              by_cases hPQ : Qn = P
              · have hcr : crossB pr sd m = false := by rw [crossB_at pr sd m S hSv _ _ hP hQ, hPQ]; simp
                have HCR : Hid (crossB pr sd m = false) := hcr
                clear hcr hQ hSv hP
                subst hPQ
                as_aux_lemma =>
                  clear hix4 hix3 HM
                  go_wp2
                  go_quiet (fail)
                  go_wp2
                  go_roundw
                  case rel => exact ⟨m + 1, hlt, by go_num, by rw [HNO.out HCR.out]; exact ⟨f, tv, tg1, hM.drewN _⟩⟩
                  case measure => simp [intOf]; omega
              · have hcr : crossB pr sd m = true := by rw [crossB_at pr sd m S hSv _ _ hP hQ]; simp; omega
                have HY := lsAt_yes pr sd sq m hcr
                have esP : sendP pr sd m = Qn := by unfold sendP; rw [hSv]; simpa using hQ
                rw [esP, hP, hSv, Int.toNat_natCast] at HY
                have HYY : Hid (lsAt pr sd sq (m + 1) = ((lsAt pr sd sq m).link P Qn).note P Qn (sq.getD m 0) (sq.getD S 0)) := HY
                have hPQb : ((Qn : Int) == (P : Int)) = false := by simp; omega
                clear HY esP hcr HNO
                clear hix4 hix3 HM hQ hSv hP
                have HBs : Hid (LSb m (lsAt pr sd sq m)) := lsb_at pr sd sq m
                generalize lsAt pr sd sq m = s at *
                have hwP := wf_small P (by omega)
                have hwQ := wf_small Qn (by omega)
                have hcd2 := hM.c2 (by simp)
                go_upto_region 10 with fail
                go_cut [87] (fun c wx => c = .bool false ∧ ∃ d, wx = wr.drewN d)
                case first =>
                  as_aux_lemma =>
                    go_quiet (fail)
                    go_wp2
                    go_meet
                    exact ⟨rfl, nq, rfl⟩
                case rest =>
                  obtain ⟨rfl, d, rfl⟩ := hcut
                  go_upto_region 11 with fail
                  go_cut [7, 8] (fun v7 v8 wx => v7 = .int .i64 P ∧ v8 = .int .i64 Qn ∧ ∃ d', wx = (wr.drewN d).drewN d')
                  case first =>
                    as_aux_lemma =>
                      go_quiet (fail)
                      go_wp2
                      go_meet
                      exact ⟨rfl, rfl, nq, rfl⟩
                  case rest =>
                    obtain ⟨rfl, rfl, d', rfl⟩ := hcut
                    have hMd := (hM.drewN d).drewN d'
                    have hcd2' := hMd.c2 (by simp)
                    generalize ((wr.drewN d).drewN d') = wd at hMd hcd2' ⊢
                    clear hcd2 p1 p2 g3 s1 g4 hM
                    go_upto_region 13 with (first | (at_lookup; refine wpList_vlook rfl _ _ 70 rfl linkKeyed Try.underlying70 zero73 rfl (hMd.map (by simp)) _ _ rfl (key_of _ _ hwP hwQ) ?_))
                    go_cut [9, 111] (fun v c wx => v = f (key P Qn) ∧ c = .bool (!s.pres P Qn) ∧ wx = wd)
                    case first =>
                      as_aux_lemma =>
                        cases hp : s.pres P Qn with
                        | true =>
                          obtain ⟨b, vr, vs, hf, _⟩ := hMd.link P Qn hpm hpS hp
                          rw [hf]
                          go_wp2
                          go_meet
                          exact ⟨hf.symm, by rw [hp]; rfl, rfl⟩
                        | false =>
                          have hf := hMd.absent P Qn hpm hpS hp
                          rw [hf]
                          go_wp2
                          go_meet
                          exact ⟨hf.symm, by rw [hp]; rfl, rfl⟩
                    case rest =>
                      obtain ⟨rfl, rfl, rfl⟩ := hcut
                      have hClt : C < wc.heap.size := hMd.lts.1
                      have hsz : s.sz < maxLen := by have := HBs.out.szl; unfold maxLen; omega
                      go_upto_if 111 with fail
                      go_cut [9] (fun v wx => ∃ b, v = .pointer (some ⟨b, 0, none⟩) ∧ NL w wx C Ge Mb T k (.pointer (some ⟨R, 0, none⟩)) ev (s.link P Qn) P Qn b)
                      case first =>
                        cases hp : s.pres P Qn with
                        | true =>
                          as_aux_lemma =>
                            obtain ⟨b, vr, vs, hf, _⟩ := hMd.link P Qn hpm hpS hp
                            rw [hf]
                            go_wp2
                            go_meet
                            exact ⟨b, rfl, by unfold LS.link; rw [if_pos hp]; exact ⟨f, tv, tg1, hMd, hf⟩⟩
                        | false =>
                          have hf := hMd.absent P Qn hpm hpS hp
                          go_upto_region 16 with (first | (at_mapUpdate; refine wpList_vput rfl _ _ _ 70 rfl linkKeyed Try.underlying70 rfl ((hMd.alloc _).map (by simp)) hsz _ (.pointer (some ⟨wc.heap.size, 0, none⟩)) _ rfl rfl (key_of _ _ hwP hwQ) (by simp) ?_; intro w2 sz' f1 hm2 hu hg2 he1 he2))
                          obtain ⟨z1, z2⟩ := HBs.out.none P Qn hp
                          have hszz : sz' = s.sz + 1 := he2 hf
                          subst hszz
                          obtain ⟨tg2, hM2⟩ := hMd.newLink hpm hpS (by omega) hm2 hu hg2 z1 z2
                          have hf1 : f1 (key P Qn) = .pointer (some ⟨wc.heap.size, 0, none⟩) := hu.same
                          have HF1 : Hid (f1 (key P Qn) = .pointer (some ⟨wc.heap.size, 0, none⟩)) := hf1
                          clear hf1 hu hg2 he1 he2 hm2 hcd2' hClt hMd
                          obtain ⟨Lb, hLb⟩ : ∃ Lb, Lb = wc.heap.size := ⟨_, rfl⟩
                          rw [← hLb] at HF1 ⊢
                          have hixT : ∀ (p : Nat) (w' : World), p < k → (Instr.indexAt 39 (.slice (some ⟨T, 0, none⟩) k k) (.int .i64 p)).run Try.prog w' = .ok (.pointer (some ⟨T, p, none⟩)) w' :=
                            fun p w' hk => by simpa using indexAt_one Try.underlying39 Try.info23 T 0 _ k p hk w'
                          dsimp only [Act.put]
                          go_cut [9] (fun v wx => v = .pointer (some ⟨Lb, 0, none⟩) ∧ ∃ tv2 tg2, CMem [] w wx C Ge Mb T k (s.sz + 1) (.pointer (some ⟨R, 0, none⟩)) ev f1 tv2 (setI s.tk P (s.tk P ++ [(Qn : Int)])) (setII s.pres P Qn true) s.rc s.sn tg2)
                          case first =>
                            as_aux_lemma =>
                              have hixP := fun w' => hixT P w' hPk
                              have hc3 := hM2.c3 (by simp)
                              have hct := hM2.tcell (by simp) P hPk
                              have hl1 := hM2.lts.1
                              have hl2 := hM2.lts.2.2.2
                              have hMa := (hM2.alloc (.cells #[.int .i64 (Qn : Int)] 3)).drew
                              have hown := hMa.rows P (by simp)
                              have htkl : (s.tk P).length + 1 ≤ 10000000 := by have := HBs.out.tkl P; omega
                              have HMa : Hid (CMem [] w (w2.alloc (.cells #[.int .i64 (Qn : Int)] 3)).drew C Ge Mb T k (s.sz + 1) (.pointer (some ⟨R, 0, none⟩)) ev f1 tv s.tk (setII s.pres P Qn true) s.rc s.sn tg2) := hMa
                              have HO : Hid (IOwn (w2.alloc (.cells #[.int .i64 (Qn : Int)] 3)).drew (tv P) (s.tk P)) := hown
                              clear hMa hown hixT
                              generalize htvP : tv (P : Int) = vP at *
                              have HS0 : Hid (w2.drew.cell? ⟨C, 3, none⟩ = some (.slice (some ⟨T, 0, none⟩) k k) ∧ w2.drew.cell? ⟨T, P, none⟩ = some vP) := ⟨hc3, hct⟩
                              have HA3 : Hid ((w2.alloc (.cells #[.int .i64 (Qn : Int)] 3)).drew.cell? ⟨C, 3, none⟩ = some (.slice (some ⟨T, 0, none⟩) k k) ∧ (w2.alloc (.cells #[.int .i64 (Qn : Int)] 3)).drew.cell? ⟨T, P, none⟩ = some vP) := ⟨HMa.out.c3 (by simp), by rw [← htvP]; exact HMa.out.tcell (by simp) P hPk⟩
                              refine WL_start 16 (fun w' => w'.cell? ⟨C, 3, none⟩ = some (.slice (some ⟨T, 0, none⟩) k k) ∧ w'.cell? ⟨T, P, none⟩ = some vP) (by kernel_rfl) ?_
                              refine WL_take 0 (v := ?_) rfl (by kernel_rfl) (fun _ _ _ h => h) HS0.out (Or.inl ⟨by rfl, ?_⟩) ?_
                              rotate_left
                              · (intro wS hSw; (try dsimp only at hSw); go_simp; (try with_reducible rfl))
                              try simp only [Act.put, List.setIfInBounds_toArray, List.set_cons_zero, List.set_cons_succ]
                              refine WL_take 1 (v := ?_) rfl (by kernel_rfl) (fun _ _ _ h => h) HS0.out (Or.inl ⟨by rfl, ?_⟩) ?_
                              rotate_left
                              · (intro wS hSw; (try dsimp only at hSw); go_simp; (try with_reducible rfl))
                              try simp only [Act.put, List.setIfInBounds_toArray, List.set_cons_zero, List.set_cons_succ]
                              refine WL_take 2 (v := ?_) rfl (by kernel_rfl) (fun _ _ _ h => h) HS0.out (Or.inl ⟨by rfl, ?_⟩) ?_
                              rotate_left
                              · (intro wS hSw; (try dsimp only at hSw); go_simp; (try with_reducible rfl))
                              try simp only [Act.put, List.setIfInBounds_toArray, List.set_cons_zero, List.set_cons_succ]
                              refine WL_take 3 (v := ?_) rfl (by kernel_rfl) (fun _ _ _ h => h) HS0.out (Or.inl ⟨by rfl, ?_⟩) ?_
                              rotate_left
                              · (intro wS hSw; (try dsimp only at hSw); go_simp; (try with_reducible rfl))
                              try simp only [Act.put, List.setIfInBounds_toArray, List.set_cons_zero, List.set_cons_succ]
                              refine WL_take 4 (v := ?_) rfl (by kernel_rfl) (fun _ _ _ h => h) HS0.out (Or.inl ⟨by rfl, ?_⟩) ?_
                              rotate_left
                              · (intro wS hSw; (try dsimp only at hSw); go_simp; (try with_reducible rfl))
                              try simp only [Act.put, List.setIfInBounds_toArray, List.set_cons_zero, List.set_cons_succ]
                              refine WL_take 5 (v := ?_) rfl (by kernel_rfl) (fun _ _ _ h => h) HS0.out (Or.inl ⟨by rfl, ?_⟩) ?_
                              rotate_left
                              · (intro wS hSw; (try dsimp only at hSw); go_simp; (try with_reducible rfl))
                              try simp only [Act.put, List.setIfInBounds_toArray, List.set_cons_zero, List.set_cons_succ]
                              refine WL_take 6 (v := ?_) rfl (by kernel_rfl) (fun _ _ _ h => h) HS0.out (Or.inl ⟨by rfl, ?_⟩) ?_
                              rotate_left
                              · (intro wS hSw; (try dsimp only at hSw); go_simp; (try with_reducible rfl))
                              try simp only [Act.put, List.setIfInBounds_toArray, List.set_cons_zero, List.set_cons_succ]
                              refine WL_take 7 (v := ?_) rfl (by kernel_rfl) (fun _ _ _ h => h) HS0.out (Or.inl ⟨by rfl, ?_⟩) ?_
                              rotate_left
                              · (intro wS hSw; (try dsimp only at hSw); go_simp; (try with_reducible rfl))
                              try simp only [Act.put, List.setIfInBounds_toArray, List.set_cons_zero, List.set_cons_succ]
                              refine WL_take 8 (v := ?_) rfl (by kernel_rfl) (fun _ _ _ h => h) HS0.out (Or.inl ⟨by rfl, ?_⟩) ?_
                              rotate_left
                              · (intro wS hSw; (try dsimp only at hSw); go_simp; (try with_reducible rfl))
                              try simp only [Act.put, List.setIfInBounds_toArray, List.set_cons_zero, List.set_cons_succ]
                              refine WL_take 9 (v := ?_) rfl (by kernel_rfl) (fun _ _ _ h => h) HS0.out (Or.inl ⟨by rfl, ?_⟩) ?_
                              rotate_left
                              · (intro wS hSw; (try dsimp only at hSw); go_simp; (try with_reducible rfl))
                              try simp only [Act.put, List.setIfInBounds_toArray, List.set_cons_zero, List.set_cons_succ]
                              refine WL_take 10 (v := ?_) rfl (by kernel_rfl) (fun _ _ _ h => h) HS0.out (Or.inl ⟨by rfl, ?_⟩) ?_
                              rotate_left
                              · (intro wS hSw; (try dsimp only at hSw); go_simp; (try with_reducible rfl))
                              try simp only [Act.put, List.setIfInBounds_toArray, List.set_cons_zero, List.set_cons_succ]
                              refine WL_take 11 (v := ?_) rfl (by kernel_rfl) (fun _ _ _ h => h) HS0.out (Or.inl ⟨by rfl, ?_⟩) ?_
                              rotate_left
                              · (intro wS hSw; (try dsimp only at hSw); go_simp; (try with_reducible rfl))
                              try simp only [Act.put, List.setIfInBounds_toArray, List.set_cons_zero, List.set_cons_succ]
                              refine WL_take 12 (v := ?_) rfl (by kernel_rfl) (fun _ _ _ h => h) HS0.out (Or.inl ⟨by rfl, ?_⟩) ?_
                              rotate_left
                              · (intro wS hSw; (try dsimp only at hSw); go_simp; (try with_reducible rfl))
                              try simp only [Act.put, List.setIfInBounds_toArray, List.set_cons_zero, List.set_cons_succ]
                              refine WL_step 13 rfl (by kernel_rfl) (fun K hK => ?_)
                              go_simp
                              refine hK.out _ _ (fun _ => HA3.out) ?_
                              clear hK K
                              try simp only [Act.put, List.setIfInBounds_toArray, List.set_cons_zero, List.set_cons_succ]
                              refine WL_step 14 rfl (by kernel_rfl) (fun K hK => ?_)
                              refine step_iappend1 rfl (.tmp 133) (.tmp 135) rfl vP (s.tk P) (Qn : Int) w2.heap.size (by simp [Act.eval]) HO.out (by simp [Act.eval]) (by simp) htkl ?_
                              intro g cap w3 r1 r2 r3
                              obtain ⟨q1, q2, q3, q4⟩ := HMa.out.talkApp (p := P) hPk r1 (by rw [htvP]; exact r2) (by rw [htvP]; exact r3)
                              rw [htvP] at q2
                              refine hK.out _ _ (fun _ => ⟨q1, q2⟩) ?_
                              clear hK K
                              try simp only [Act.put, List.setIfInBounds_toArray, List.set_cons_zero, List.set_cons_succ]
                              refine WL_take 15 (v := ?_) rfl (by kernel_rfl) (fun _ _ _ h => h) ⟨q1, q2⟩ (Or.inl ⟨by rfl, ?_⟩) ?_
                              rotate_left
                              · (intro wS hSw; (try dsimp only at hSw); go_simp; (try with_reducible rfl))
                              try simp only [Act.put, List.setIfInBounds_toArray, List.set_cons_zero, List.set_cons_succ]
                              refine WL_step 16 rfl (by kernel_rfl) (fun K hK => ?_)
                              go_simp
                              refine hK.out _ _ (fun h => absurd rfl h) ?_
                              clear hK K
                              try simp only [Act.put, List.setIfInBounds_toArray, List.set_cons_zero, List.set_cons_succ]
                              refine WL_done (by kernel_rfl) ?_
                              obtain ⟨tg3, q5⟩ := q4
                              go_wp2_with fail
                              go_meet
                              exact ⟨by rw [hLb], _, tg3, q5⟩
                          case rest =>
                            obtain ⟨rfl, tv2, tg3, hM3⟩ := hcut
                            clear hM2
                            obtain ⟨tk2, htk2⟩ : ∃ tk2, tk2 = setI s.tk P (s.tk P ++ [(Qn : Int)]) := ⟨_, rfl⟩
                            rw [← htk2] at hM3
                            have htkl : (tk2 Qn).length + 1 ≤ 10000000 := by
                              have h1 := HBs.out.tkl P
                              have h2 := HBs.out.tkl Qn
                              rw [htk2]
                              unfold setI
                              split
                              · rw [List.length_append, List.length_singleton]; omega
                              · omega
                            have HTK : Hid (tk2 = setI s.tk P (s.tk P ++ [(Qn : Int)])) := htk2
                            clear htk2
                            go_upto_region 17 with fail
                            go_cut [9] (fun v wx => v = .pointer (some ⟨Lb, 0, none⟩) ∧ ∃ tv2 tg2, CMem [] w wx C Ge Mb T k (s.sz + 1) (.pointer (some ⟨R, 0, none⟩)) ev f1 tv2 (setI tk2 Qn (tk2 Qn ++ [(P : Int)])) (setII s.pres P Qn true) s.rc s.sn tg2)
                            case first =>
                              as_aux_lemma =>
                                have hixP := fun w' => hixT Qn w' hQk
                                have hc3 := hM3.c3 (by simp)
                                have hct := hM3.tcell (by simp) Qn hQk
                                have hl1 := hM3.lts.1
                                have hl2 := hM3.lts.2.2.2
                                have hMa := (hM3.alloc (.cells #[.int .i64 (P : Int)] 3)).drew
                                have hown := hMa.rows Qn (by simp)
                                have HMa : Hid (CMem [] w (wc.alloc (.cells #[.int .i64 (P : Int)] 3)).drew C Ge Mb T k (s.sz + 1) (.pointer (some ⟨R, 0, none⟩)) ev f1 tv2 tk2 (setII s.pres P Qn true) s.rc s.sn tg3) := hMa
                                have HO : Hid (IOwn (wc.alloc (.cells #[.int .i64 (P : Int)] 3)).drew (tv2 Qn) (tk2 Qn)) := hown
                                clear hMa hown hixT
                                generalize htvP : tv2 (Qn : Int) = vP at *
                                have HS0 : Hid (wc.drew.cell? ⟨C, 3, none⟩ = some (.slice (some ⟨T, 0, none⟩) k k) ∧ wc.drew.cell? ⟨T, Qn, none⟩ = some vP) := ⟨hc3, hct⟩
                                have HA3 : Hid ((wc.alloc (.cells #[.int .i64 (P : Int)] 3)).drew.cell? ⟨C, 3, none⟩ = some (.slice (some ⟨T, 0, none⟩) k k) ∧ (wc.alloc (.cells #[.int .i64 (P : Int)] 3)).drew.cell? ⟨T, Qn, none⟩ = some vP) := ⟨HMa.out.c3 (by simp), by rw [← htvP]; exact HMa.out.tcell (by simp) Qn hQk⟩
                                refine WL_start 16 (fun w' => w'.cell? ⟨C, 3, none⟩ = some (.slice (some ⟨T, 0, none⟩) k k) ∧ w'.cell? ⟨T, Qn, none⟩ = some vP) (by kernel_rfl) ?_
                                refine WL_take 0 (v := ?_) rfl (by kernel_rfl) (fun _ _ _ h => h) HS0.out (Or.inl ⟨by rfl, ?_⟩) ?_
                                rotate_left
                                · (intro wS hSw; (try dsimp only at hSw); go_simp; (try with_reducible rfl))
                                try simp only [Act.put, List.setIfInBounds_toArray, List.set_cons_zero, List.set_cons_succ]
                                refine WL_take 1 (v := ?_) rfl (by kernel_rfl) (fun _ _ _ h => h) HS0.out (Or.inl ⟨by rfl, ?_⟩) ?_
                                rotate_left
                                · (intro wS hSw; (try dsimp only at hSw); go_simp; (try with_reducible rfl))
                                try simp only [Act.put, List.setIfInBounds_toArray, List.set_cons_zero, List.set_cons_succ]
                                refine WL_take 2 (v := ?_) rfl (by kernel_rfl) (fun _ _ _ h => h) HS0.out (Or.inl ⟨by rfl, ?_⟩) ?_
                                rotate_left
                                · (intro wS hSw; (try dsimp only at hSw); go_simp; (try with_reducible rfl))
                                try simp only [Act.put, List.setIfInBounds_toArray, List.set_cons_zero, List.set_cons_succ]
                                refine WL_take 3 (v := ?_) rfl (by kernel_rfl) (fun _ _ _ h => h) HS0.out (Or.inl ⟨by rfl, ?_⟩) ?_
                                rotate_left
                                · (intro wS hSw; (try dsimp only at hSw); go_simp; (try with_reducible rfl))
                                try simp only [Act.put, List.setIfInBounds_toArray, List.set_cons_zero, List.set_cons_succ]
                                refine WL_take 4 (v := ?_) rfl (by kernel_rfl) (fun _ _ _ h => h) HS0.out (Or.inl ⟨by rfl, ?_⟩) ?_
                                rotate_left
                                · (intro wS hSw; (try dsimp only at hSw); go_simp; (try with_reducible rfl))
                                try simp only [Act.put, List.setIfInBounds_toArray, List.set_cons_zero, List.set_cons_succ]
                                refine WL_take 5 (v := ?_) rfl (by kernel_rfl) (fun _ _ _ h => h) HS0.out (Or.inl ⟨by rfl, ?_⟩) ?_
                                rotate_left
                                · (intro wS hSw; (try dsimp only at hSw); go_simp; (try with_reducible rfl))
                                try simp only [Act.put, List.setIfInBounds_toArray, List.set_cons_zero, List.set_cons_succ]
                                refine WL_take 6 (v := ?_) rfl (by kernel_rfl) (fun _ _ _ h => h) HS0.out (Or.inl ⟨by rfl, ?_⟩) ?_
                                rotate_left
                                · (intro wS hSw; (try dsimp only at hSw); go_simp; (try with_reducible rfl))
                                try simp only [Act.put, List.setIfInBounds_toArray, List.set_cons_zero, List.set_cons_succ]
                                refine WL_take 7 (v := ?_) rfl (by kernel_rfl) (fun _ _ _ h => h) HS0.out (Or.inl ⟨by rfl, ?_⟩) ?_
                                rotate_left
                                · (intro wS hSw; (try dsimp only at hSw); go_simp; (try with_reducible rfl))
                                try simp only [Act.put, List.setIfInBounds_toArray, List.set_cons_zero, List.set_cons_succ]
                                refine WL_take 8 (v := ?_) rfl (by kernel_rfl) (fun _ _ _ h => h) HS0.out (Or.inl ⟨by rfl, ?_⟩) ?_
                                rotate_left
                                · (intro wS hSw; (try dsimp only at hSw); go_simp; (try with_reducible rfl))
                                try simp only [Act.put, List.setIfInBounds_toArray, List.set_cons_zero, List.set_cons_succ]
                                refine WL_take 9 (v := ?_) rfl (by kernel_rfl) (fun _ _ _ h => h) HS0.out (Or.inl ⟨by rfl, ?_⟩) ?_
                                rotate_left
                                · (intro wS hSw; (try dsimp only at hSw); go_simp; (try with_reducible rfl))
                                try simp only [Act.put, List.setIfInBounds_toArray, List.set_cons_zero, List.set_cons_succ]
                                refine WL_take 10 (v := ?_) rfl (by kernel_rfl) (fun _ _ _ h => h) HS0.out (Or.inl ⟨by rfl, ?_⟩) ?_
                                rotate_left
                                · (intro wS hSw; (try dsimp only at hSw); go_simp; (try with_reducible rfl))
                                try simp only [Act.put, List.setIfInBounds_toArray, List.set_cons_zero, List.set_cons_succ]
                                refine WL_take 11 (v := ?_) rfl (by kernel_rfl) (fun _ _ _ h => h) HS0.out (Or.inl ⟨by rfl, ?_⟩) ?_
                                rotate_left
                                · (intro wS hSw; (try dsimp only at hSw); go_simp; (try with_reducible rfl))
                                try simp only [Act.put, List.setIfInBounds_toArray, List.set_cons_zero, List.set_cons_succ]
                                refine WL_take 12 (v := ?_) rfl (by kernel_rfl) (fun _ _ _ h => h) HS0.out (Or.inl ⟨by rfl, ?_⟩) ?_
                                rotate_left
                                · (intro wS hSw; (try dsimp only at hSw); go_simp; (try with_reducible rfl))
                                try simp only [Act.put, List.setIfInBounds_toArray, List.set_cons_zero, List.set_cons_succ]
                                refine WL_step 13 rfl (by kernel_rfl) (fun K hK => ?_)
                                go_simp
                                refine hK.out _ _ (fun _ => HA3.out) ?_
                                clear hK K
                                try simp only [Act.put, List.setIfInBounds_toArray, List.set_cons_zero, List.set_cons_succ]
                                refine WL_step 14 rfl (by kernel_rfl) (fun K hK => ?_)
                                refine step_iappend1 rfl (.tmp 149) (.tmp 151) rfl vP (tk2 Qn) (P : Int) wc.heap.size (by simp [Act.eval]) HO.out (by simp [Act.eval]) (by simp) htkl ?_
                                intro g cap w3 r1 r2 r3
                                obtain ⟨q1, q2, q3, q4⟩ := HMa.out.talkApp (p := Qn) hQk r1 (by rw [htvP]; exact r2) (by rw [htvP]; exact r3)
                                rw [htvP] at q2
                                refine hK.out _ _ (fun _ => ⟨q1, q2⟩) ?_
                                clear hK K
                                try simp only [Act.put, List.setIfInBounds_toArray, List.set_cons_zero, List.set_cons_succ]
                                refine WL_take 15 (v := ?_) rfl (by kernel_rfl) (fun _ _ _ h => h) ⟨q1, q2⟩ (Or.inl ⟨by rfl, ?_⟩) ?_
                                rotate_left
                                · (intro wS hSw; (try dsimp only at hSw); go_simp; (try with_reducible rfl))
                                try simp only [Act.put, List.setIfInBounds_toArray, List.set_cons_zero, List.set_cons_succ]
                                refine WL_step 16 rfl (by kernel_rfl) (fun K hK => ?_)
                                go_simp
                                refine hK.out _ _ (fun h => absurd rfl h) ?_
                                clear hK K
                                try simp only [Act.put, List.setIfInBounds_toArray, List.set_cons_zero, List.set_cons_succ]
                                refine WL_done (by kernel_rfl) ?_
                                obtain ⟨tg4, q5⟩ := q4
                                go_wp2_with fail
                                go_meet
                                exact ⟨by rw [hLb], _, tg4, q5⟩
                            case rest =>
                              obtain ⟨rfl, tv3, tg4, hM4⟩ := hcut
                              go_wp2_with fail
                              go_meet
                              refine ⟨Lb, rfl, f1, tv3, tg4, ?_, HF1.out⟩
                              have e : s.link P Qn = s.newLink P Qn := by unfold LS.link; rw [if_neg (by rw [hp]; simp)]
                              rw [e]
                              rw [HTK.out] at hM4
                              exact hM4
                      case rest =>
                        obtain ⟨b, rfl, f2, tv2, tg2, hM2, hf2⟩ := hcut
                        generalize hxx : sq.getD S 0 = x at *
                        have HXX : Hid (sq.getD S 0 = x) := hxx
                        clear hxx
                        obtain ⟨l1, l2, l3, l4, l5, l6⟩ := HBs.out.link P Qn
                        have b1 := HBs.out.rcl P Qn
                        have b2' := HBs.out.snl P Qn
                        rw [← l2] at b1
                        rw [← l3] at b2'
                        clear hMd l1 l2 l3 l4 l6 hcd2' hClt hsz
                        generalize s.link P Qn = s1 at *
                        obtain ⟨b', vr, vs, hf', hl⟩ := hM2.link P Qn hpm hpS l5
                        rw [hf2] at hf'
                        simp at hf'
                        subst hf'
                        have kR2 := HRun.out.below hM2.below
                        have e1 := kR2.c1
                        rw [HQl.out] at e1
                        have e2 := kR2.ev.cell S (by rw [HQl.out]; exact hSn)
                        rw [HXX.out] at e2
                        have hixV := fun w' => indexAt_ev E n n S hSn w'
                        have HYr : Hid (s1.raises P Qn (x) = ((s1.sn P Qn).isEmpty || decide ((s1.sn P Qn).getD ((s1.sn P Qn).length - 1) 0 < x))) := rfl
                        have lc1 : wc.cell? ⟨b, 1, none⟩ = some vs := by rw [(hl.cells (by simp)).cell]; rfl
                        have hso := hl.srow (by simp)
                        have hso' : ∃ ao cc, vs = .slice ao (s1.sn P Qn).length cc ∧ Ints wc ao (s1.sn P Qn) := by
                          rcases hso.cases with ⟨e3, e4⟩ | ⟨g, cap, e3, hr⟩
                          · exact ⟨none, 0, by rw [e3, e4]; rfl, by rw [e4]; exact Ints.nil _ _⟩
                          · exact ⟨_, cap, e3, hr.ints⟩
                        obtain ⟨ao, cc, hvs, hoi⟩ := hso'
                        rw [hvs] at lc1
                        obtain ⟨bo, oo, hixo, hcello⟩ := ints_open hoi
                        have HM2 : Hid (CMem [] w wc C Ge Mb T k s1.sz (.pointer (some ⟨R, 0, none⟩)) ev f2 tv2 s1.tk s1.pres s1.rc s1.sn tg2) := hM2
                        have HLK : Hid (LinkAt [] w wc tg2 P Qn b vr vs (s1.rc P Qn) (s1.sn P Qn)) := hl
                        have lc0 : wc.cell? ⟨b, 0, none⟩ = some vr := by rw [(hl.cells (by simp)).cell]; rfl
                        clear hoi hso kR2 hl
                        go_upto_region 19 with fail
                        go_cut [184] (fun c wx => c = .bool (s1.raises P Qn (x)) ∧ ∃ d, wx = wc.drewN d)
                        case first =>
                          as_aux_lemma =>
                            by_cases hL0 : (s1.sn P Qn).length = 0
                            · have hz : s1.sn P Qn = [] := List.length_eq_zero_iff.1 hL0
                              have HRA : Hid (s1.raises P Qn x = true) := (by unfold Hid; rw [HYr.out, hz]; rfl)
                              rw [hL0] at lc1
                              clear hixo hcello hz hvs
                              go_quiet (fail)
                              go_wp2
                              go_meet
                              exact ⟨by rw [HRA.out], nq, rfl⟩
                            · have lcl := hcello ((s1.sn P Qn).length - 1) (by omega)
                              have hixl : ∀ w', (Instr.indexAt 23 (.slice ao (s1.sn P Qn).length cc) (.int .i64 (((s1.sn P Qn).length : Int) - 1))).run Try.prog w' = .ok (.pointer (some ⟨bo, oo + ((s1.sn P Qn).length - 1), none⟩)) w' := fun w' => by
                                have := hixo cc ((s1.sn P Qn).length - 1) w' (by omega)
                                rwa [show (((s1.sn P Qn).length - 1 : Nat) : Int) = ((s1.sn P Qn).length : Int) - 1 by omega] at this
                              have hne : (s1.sn P Qn).isEmpty = false := by
                                cases hq : s1.sn P Qn with
                                | nil => rw [hq] at hL0; simp at hL0
                                | cons y ys => rfl
                              have HRA : Hid (s1.raises P Qn x = decide ((s1.sn P Qn).getD ((s1.sn P Qn).length - 1) 0 < x)) := (by unfold Hid; rw [HYr.out, hne]; rfl)
                              generalize (s1.sn P Qn).getD ((s1.sn P Qn).length - 1) 0 = la at *
                              clear hixo hcello hne hvs HYr
                              have hL1 : 0 < (s1.sn P Qn).length := by omega
                              generalize (s1.sn P Qn).length = Ls at *
                              have hL2 : ((Ls : Int) == 0) = false := by simp; omega
                              generalize oo + (Ls - 1) = oz at *
                              go_quiet (fail)
                              go_wp2
                              go_meet
                              exact ⟨by rw [HRA.out], nq, rfl⟩
                        case rest =>
                          obtain ⟨rfl, d, rfl⟩ := hcut
                          clear HYr hixo hcello lc0 lc1 hvs e1 e2 hixV
                          have HYN : Hid (lsAt pr sd sq (m + 1) = if s1.raises P Qn (x) = true then { s1 with rc := setII s1.rc P Qn (s1.rc P Qn ++ [sq.getD m 0]), sn := setII s1.sn P Qn (s1.sn P Qn ++ [x]) } else s1) := HYY.out
                          have hM3 := HM2.out.drewN d
                          clear HYY HM2 HLK hM2
                          generalize wc.drewN d = wx at *
                          cases hra : s1.raises P Qn (x) with
                          | false =>
                            have HN : Hid (lsAt pr sd sq (m + 1) = s1) := (by unfold Hid; rw [HYN.out, hra, if_neg (by simp)])
                            as_aux_lemma =>
                              go_wp2
                              go_roundw
                              case rel => exact ⟨m + 1, hlt, by go_num, by rw [HN.out]; exact ⟨f2, tv2, tg2, hM3⟩⟩
                              case measure => simp [intOf]; omega
                          | true =>
                            have HN : Hid (lsAt pr sd sq (m + 1) = { s1 with rc := setII s1.rc P Qn (s1.rc P Qn ++ [sq.getD m 0]), sn := setII s1.sn P Qn (s1.sn P Qn ++ [x]) }) := (by unfold Hid; rw [HYN.out, hra, if_pos rfl])
                            clear HYN hra
                            have hrl : (s1.rc P Qn).length + 1 ≤ 10000000 := by omega
                            have hsl : (s1.sn P Qn).length + 1 ≤ 10000000 := by omega
                            go_upto_region 20 with fail
                            go_cut [9] (fun v wx => v = .pointer (some ⟨b, 0, none⟩) ∧ ∃ tg3, CMem [] w wx C Ge Mb T k s1.sz (.pointer (some ⟨R, 0, none⟩)) ev f2 tv2 s1.tk s1.pres (setII s1.rc P Qn (s1.rc P Qn ++ [sq.getD m 0])) s1.sn tg3)
                            case first =>
                              as_aux_lemma =>
                                have kR2 := HRun.out.below hM3.below
                                have e1 := kR2.c1
                                rw [HQl.out] at e1
                                have e2 := kR2.ev.cell m (by rw [HQl.out]; exact hlt)
                                have hixV := fun w' => indexAt_ev E n n m hlt w'
                                have HRE0 : ∀ w', Below w.heap.size w w' → w'.cell? ⟨R, 1, none⟩ = some (.slice (some ⟨E, 0, none⟩) n n) ∧ w'.cell? ⟨E, m * 6 + 1, none⟩ = some (.int .i64 (sq.getD m 0)) := fun w' hb' => by
                                  have k1 := HRun.out.below hb'
                                  have k2 := k1.c1
                                  rw [HQl.out] at k2
                                  exact ⟨k2, k1.ev.cell m (by rw [HQl.out]; exact hlt)⟩
                                generalize sq.getD m 0 = y at *
                                have hMa := (hM3.alloc (.cells #[.int .i64 y] 3)).drew
                                obtain ⟨b', vr', vs', hf', hl3⟩ := hMa.link P Qn hpm hpS l5
                                rw [hf2] at hf'
                                simp at hf'
                                subst hf'
                                obtain ⟨b', vr2, vs2, hf', hl4⟩ := hM3.link P Qn hpm hpS l5
                                rw [hf2] at hf'
                                simp at hf'
                                subst hf'
                                have lc0 : wx.cell? ⟨b, 0, none⟩ = some vr2 := by rw [(hl4.cells (by simp)).cell]; rfl
                                have hblt := hl4.lt
                                have evr : vr' = vr2 := by
                                  have h1 := (hl3.cells (by simp)).cell 0
                                  have h2 := ((hl4.cells (by simp)).alloc (.cells #[.int .i64 y] 3)).cell 0
                                  have h3 : (wx.alloc (.cells #[.int .i64 y] 3)).drew.cell? ⟨b, 0, none⟩ = (wx.alloc (.cells #[.int .i64 y] 3)).cell? ⟨b, 0, none⟩ := rfl
                                  rw [h3, h2] at h1
                                  simpa using h1.symm
                                subst evr
                                have hown := hl3.rrow (by simp)
                                have HMa : Hid (CMem [] w (wx.alloc (.cells #[.int .i64 y] 3)).drew C Ge Mb T k s1.sz (.pointer (some ⟨R, 0, none⟩)) ev f2 tv2 s1.tk s1.pres s1.rc s1.sn tg2) := hMa
                                have HLa : Hid (LinkAt [] w (wx.alloc (.cells #[.int .i64 y] 3)).drew tg2 P Qn b vr' vs' (s1.rc P Qn) (s1.sn P Qn)) := hl3
                                have HO : Hid (IOwn (wx.alloc (.cells #[.int .i64 y] 3)).drew vr' (s1.rc P Qn)) := hown
                                have elt : E < wx.heap.size := World.block_lt_of_cell? wx _ e2
                                have rlt : R < wx.heap.size := World.block_lt_of_cell? wx _ e1
                                have HB1 : Hid (Below w.heap.size w wx.drew) := hM3.drew.below
                                have HS0 : Hid (wx.drew.cell? ⟨b, 0, none⟩ = some vr' ∧ wx.drew.cell? ⟨R, 1, none⟩ = some (.slice (some ⟨E, 0, none⟩) n n) ∧ wx.drew.cell? ⟨E, m * 6 + 1, none⟩ = some (.int .i64 y)) := ⟨lc0, HRE0 _ HB1.out⟩
                                have HRE : Hid (∀ w', Below w.heap.size w w' → w'.cell? ⟨R, 1, none⟩ = some (.slice (some ⟨E, 0, none⟩) n n) ∧ w'.cell? ⟨E, m * 6 + 1, none⟩ = some (.int .i64 y)) := HRE0
                                have HAb : Hid ((wx.alloc (.cells #[.int .i64 y] 3)).drew.cell? ⟨b, 0, none⟩ = some vr') := (by unfold Hid; rw [(hl3.cells (by simp)).cell]; rfl)
                                clear hMa hown hl3 hl4 hM3 kR2 HRE0
                                refine WL_start 18 (fun w' => w'.cell? ⟨b, 0, none⟩ = some vr' ∧ w'.cell? ⟨R, 1, none⟩ = some (.slice (some ⟨E, 0, none⟩) n n) ∧ w'.cell? ⟨E, m * 6 + 1, none⟩ = some (.int .i64 y)) (by kernel_rfl) ?_
                                refine WL_take 0 (v := ?_) rfl (by kernel_rfl) (fun _ _ _ h => h) HS0.out (Or.inl ⟨by rfl, ?_⟩) ?_
                                rotate_left
                                · (intro wS hSw; (try dsimp only at hSw); go_simp; (try with_reducible rfl))
                                try simp only [Act.put, List.setIfInBounds_toArray, List.set_cons_zero, List.set_cons_succ]
                                refine WL_take 1 (v := ?_) rfl (by kernel_rfl) (fun _ _ _ h => h) HS0.out (Or.inl ⟨by rfl, ?_⟩) ?_
                                rotate_left
                                · (intro wS hSw; (try dsimp only at hSw); go_simp; (try with_reducible rfl))
                                try simp only [Act.put, List.setIfInBounds_toArray, List.set_cons_zero, List.set_cons_succ]
                                refine WL_take 2 (v := ?_) rfl (by kernel_rfl) (fun _ _ _ h => h) HS0.out (Or.inl ⟨by rfl, ?_⟩) ?_
                                rotate_left
                                · (intro wS hSw; (try dsimp only at hSw); go_simp; (try with_reducible rfl))
                                try simp only [Act.put, List.setIfInBounds_toArray, List.set_cons_zero, List.set_cons_succ]
                                refine WL_take 3 (v := ?_) rfl (by kernel_rfl) (fun _ _ _ h => h) HS0.out (Or.inl ⟨by rfl, ?_⟩) ?_
                                rotate_left
                                · (intro wS hSw; (try dsimp only at hSw); go_simp; (try with_reducible rfl))
                                try simp only [Act.put, List.setIfInBounds_toArray, List.set_cons_zero, List.set_cons_succ]
                                refine WL_take 4 (v := ?_) rfl (by kernel_rfl) (fun _ _ _ h => h) HS0.out (Or.inl ⟨by rfl, ?_⟩) ?_
                                rotate_left
                                · (intro wS hSw; (try dsimp only at hSw); go_simp; (try with_reducible rfl))
                                try simp only [Act.put, List.setIfInBounds_toArray, List.set_cons_zero, List.set_cons_succ]
                                refine WL_take 5 (v := ?_) rfl (by kernel_rfl) (fun _ _ _ h => h) HS0.out (Or.inl ⟨by rfl, ?_⟩) ?_
                                rotate_left
                                · (intro wS hSw; (try dsimp only at hSw); go_simp; (try with_reducible rfl))
                                try simp only [Act.put, List.setIfInBounds_toArray, List.set_cons_zero, List.set_cons_succ]
                                refine WL_take 6 (v := ?_) rfl (by kernel_rfl) (fun _ _ _ h => h) HS0.out (Or.inl ⟨by rfl, ?_⟩) ?_
                                rotate_left
                                · (intro wS hSw; (try dsimp only at hSw); go_simp; (try with_reducible rfl))
                                try simp only [Act.put, List.setIfInBounds_toArray, List.set_cons_zero, List.set_cons_succ]
                                refine WL_take 7 (v := ?_) rfl (by kernel_rfl) (fun _ _ _ h => h) HS0.out (Or.inl ⟨by rfl, ?_⟩) ?_
                                rotate_left
                                · (intro wS hSw; (try dsimp only at hSw); go_simp; (try with_reducible rfl))
                                try simp only [Act.put, List.setIfInBounds_toArray, List.set_cons_zero, List.set_cons_succ]
                                refine WL_take 8 (v := ?_) rfl (by kernel_rfl) (fun _ _ _ h => h) HS0.out (Or.inl ⟨by rfl, ?_⟩) ?_
                                rotate_left
                                · (intro wS hSw; (try dsimp only at hSw); go_simp; (try with_reducible rfl))
                                try simp only [Act.put, List.setIfInBounds_toArray, List.set_cons_zero, List.set_cons_succ]
                                refine WL_take 9 (v := ?_) rfl (by kernel_rfl) (fun _ _ _ h => h) HS0.out (Or.inl ⟨by rfl, ?_⟩) ?_
                                rotate_left
                                · (intro wS hSw; (try dsimp only at hSw); go_simp; (try with_reducible rfl))
                                try simp only [Act.put, List.setIfInBounds_toArray, List.set_cons_zero, List.set_cons_succ]
                                refine WL_take 10 (v := ?_) rfl (by kernel_rfl) (fun _ _ _ h => h) HS0.out (Or.inl ⟨by rfl, ?_⟩) ?_
                                rotate_left
                                · (intro wS hSw; (try dsimp only at hSw); go_simp; (try with_reducible rfl))
                                try simp only [Act.put, List.setIfInBounds_toArray, List.set_cons_zero, List.set_cons_succ]
                                refine WL_take 11 (v := ?_) rfl (by kernel_rfl) (fun _ _ _ h => h) HS0.out (Or.inl ⟨by rfl, ?_⟩) ?_
                                rotate_left
                                · (intro wS hSw; (try dsimp only at hSw); go_simp; (try with_reducible rfl))
                                try simp only [Act.put, List.setIfInBounds_toArray, List.set_cons_zero, List.set_cons_succ]
                                refine WL_take 12 (v := ?_) rfl (by kernel_rfl) (fun _ _ _ h => h) HS0.out (Or.inl ⟨by rfl, ?_⟩) ?_
                                rotate_left
                                · (intro wS hSw; (try dsimp only at hSw); go_simp; (try with_reducible rfl))
                                try simp only [Act.put, List.setIfInBounds_toArray, List.set_cons_zero, List.set_cons_succ]
                                refine WL_take 13 (v := ?_) rfl (by kernel_rfl) (fun _ _ _ h => h) HS0.out (Or.inl ⟨by rfl, ?_⟩) ?_
                                rotate_left
                                · (intro wS hSw; (try dsimp only at hSw); go_simp; (try with_reducible rfl))
                                try simp only [Act.put, List.setIfInBounds_toArray, List.set_cons_zero, List.set_cons_succ]
                                refine WL_step 14 rfl (by kernel_rfl) (fun K hK => ?_)
                                go_simp
                                refine hK.out _ _ (fun _ => ⟨HAb.out, HRE.out _ HMa.out.below⟩) ?_
                                clear hK K
                                try simp only [Act.put, List.setIfInBounds_toArray, List.set_cons_zero, List.set_cons_succ]
                                refine WL_step 15 rfl (by kernel_rfl) (fun K hK => ?_)
                                refine step_iappend1 rfl (.tmp 189) (.tmp 199) rfl vr' (s1.rc P Qn) y wx.heap.size (by simp [Act.eval]) HO.out (by simp [Act.eval]) (by simp) hrl ?_
                                intro g cap w3 r1 r2 r3
                                have q0 := HMa.out.linkBelow HLa.out r2
                                have q9 := HLa.out.linkCell r2
                                obtain ⟨⟨u, q1⟩, q2, q3⟩ := HMa.out.linkApp hpm hpS (by omega) l5 hf2 HLa.out false rfl r1 r2 r3
                                simp only [Bool.false_eq_true, if_false] at q1 q2 q3
                                refine hK.out _ _ (fun _ => ⟨q9, HRE.out _ q0⟩) ?_
                                clear hK K
                                try simp only [Act.put, List.setIfInBounds_toArray, List.set_cons_zero, List.set_cons_succ]
                                refine WL_take 16 (v := ?_) rfl (by kernel_rfl) (fun _ _ _ h => h) ⟨q9, HRE.out _ q0⟩ (Or.inl ⟨by rfl, ?_⟩) ?_
                                rotate_left
                                · (intro wS hSw; (try dsimp only at hSw); go_simp; (try with_reducible rfl))
                                try simp only [Act.put, List.setIfInBounds_toArray, List.set_cons_zero, List.set_cons_succ]
                                refine WL_take 17 (v := ?_) rfl (by kernel_rfl) (fun _ _ _ h => h) ⟨q9, HRE.out _ q0⟩ (Or.inl ⟨by rfl, ?_⟩) ?_
                                rotate_left
                                · (intro wS hSw; (try dsimp only at hSw); go_simp; (try with_reducible rfl))
                                try simp only [Act.put, List.setIfInBounds_toArray, List.set_cons_zero, List.set_cons_succ]
                                refine WL_step 18 rfl (by kernel_rfl) (fun K hK => ?_)
                                go_simp
                                refine hK.out _ _ (fun h => absurd rfl h) ?_
                                clear hK K
                                try simp only [Act.put, List.setIfInBounds_toArray, List.set_cons_zero, List.set_cons_succ]
                                refine WL_done (by kernel_rfl) ?_
                                obtain ⟨tg4, q5⟩ := q3
                                go_wp2_with fail
                                go_meet
                                exact ⟨rfl, tg4, q5⟩
                            case rest =>
                              as_aux_lemma =>
                                obtain ⟨rfl, tg3, hM4⟩ := hcut
                                clear hM3
                                obtain ⟨rc2, hrc2⟩ : ∃ rc2, rc2 = setII s1.rc P Qn (s1.rc P Qn ++ [sq.getD m 0]) := ⟨_, rfl⟩
                                rw [← hrc2] at hM4
                                have HRC : Hid (rc2 = setII s1.rc P Qn (s1.rc P Qn ++ [sq.getD m 0])) := hrc2
                                clear hrc2
                                have hMa := hM4.alloc (.cells #[.int .i64 x] 3)
                                obtain ⟨b', vr', vs', hf', hl3⟩ := hMa.link P Qn hpm hpS l5
                                rw [hf2] at hf'
                                simp at hf'
                                subst hf'
                                obtain ⟨b', vr2, vs2, hf', hl4⟩ := hM4.link P Qn hpm hpS l5
                                rw [hf2] at hf'
                                simp at hf'
                                subst hf'
                                have lc1 : wc.cell? ⟨b, 1, none⟩ = some vs2 := by rw [(hl4.cells (by simp)).cell]; rfl
                                have evr : vs' = vs2 := by
                                  have h1 := (hl3.cells (by simp)).cell 1
                                  have h2 := ((hl4.cells (by simp)).alloc (.cells #[.int .i64 x] 3)).cell 1
                                  rw [h2] at h1
                                  simpa using h1.symm
                                subst evr
                                have hblt := hl4.lt
                                have hown := hl3.srow (by simp)
                                have HMa : Hid (CMem [] w (wc.alloc (.cells #[.int .i64 x] 3)) C Ge Mb T k s1.sz (.pointer (some ⟨R, 0, none⟩)) ev f2 tv2 s1.tk s1.pres rc2 s1.sn tg3) := hMa
                                have HLa : Hid (LinkAt [] w (wc.alloc (.cells #[.int .i64 x] 3)) tg3 P Qn b vr' vs' (rc2 P Qn) (s1.sn P Qn)) := hl3
                                have HO : Hid (IOwn (wc.alloc (.cells #[.int .i64 x] 3)) vs' (s1.sn P Qn)) := hown
                                clear hMa hown hl3 hl4 hM4
                                go_wp2_with (first | (at_builtin; refine wpList_iappend1 rfl _ _ rfl vs' (s1.sn P Qn) x wc.heap.size rfl HO.out rfl (by simp) hsl ?_; intro g cap w3 r1 r2 r3; obtain ⟨⟨u, q1⟩, q2, q3⟩ := HMa.out.linkApp hpm hpS (by omega) l5 hf2 HLa.out true rfl r1 r2 r3; simp only [if_true] at q1 q2 q3))
                                go_roundw
                                case rel =>
                                  obtain ⟨tg4, q5⟩ := q3
                                  exact ⟨m + 1, hlt, by go_num, by rw [HN.out, ← HRC.out]; exact ⟨f2, tv2, tg4, q5⟩⟩
                                case measure => simp [intOf]; omega
          · as_aux_lemma =>
              have em : m = n := by omega
              subst em
              have HBs : Hid (LSb m (lsAt pr sd sq m)) := lsb_at pr sd sq m
              have HPost : Hid (ev = evTo ls k k) := HEV.out
              have hc3 := hM.c3 (by simp)
              have HM3 : Hid (NC w wr C Ge Mb T k (.pointer (some ⟨R, 0, none⟩)) ev { lsAt pr sd sq m with tk := tkTo (lsAt pr sd sq m).tk 0 }) := (by rw [tkTo_zero]; exact ⟨f, tv, tg1, hM⟩)
              clear hM kR g4 hix4 hix3 HM
              have hixT : ∀ (p : Nat) (w' : World), p < k → (Instr.indexAt 39 (.slice (some ⟨T, 0, none⟩) k k) (.int .i64 p)).run Try.prog w' = .ok (.pointer (some ⟨T, p, none⟩)) w' :=
                fun p w' hk => by simpa using indexAt_one Try.underlying39 Try.info23 T 0 _ k p hk w'
              generalize hs : lsAt pr sd sq m = s at *
              have HS : Hid (lsAt pr sd sq m = s) := hs
              clear hs
              go_wp2
              go_loopw [219] (fun i wr => ∃ j : Nat, j ≤ k ∧ i = .int .i64 j ∧ NC w wr C Ge Mb T k (.pointer (some ⟨R, 0, none⟩)) ev { s with tk := tkTo s.tk j }) (fun i _ => k - (intOf i).toNat)
              case atStart => exact ⟨0, Nat.zero_le _, rfl, HM3.out⟩
              case round =>
                obtain ⟨j, hj, rfl, f, tv, tg1, hM⟩ := hrel
                clear hc3
                by_cases hjk : j < k
                · have hc3 := hM.c3 (by simp)
                  have hct := hM.tcell (by simp) j hjk
                  have hixj := fun w' => hixT j w' hjk
                  have hown : IOwn wr (tv j) (s.tk j) := by have := hM.rows j (by simp); simpa only [tkTo_at] using this
                  have hlen := HBs.out.tkl j
                  have hcall := sort_own (tv j) (s.tk j) wr hown (by omega)
                  have HM4 : Hid (CMem [] w wr C Ge Mb T k s.sz (.pointer (some ⟨R, 0, none⟩)) ev f tv (tkTo s.tk j) s.pres s.rc s.sn tg1) := hM
                  clear hM hown hixT
                  generalize htv : tv (j : Int) = vj at *
                  go_wp2_with fail
                  refine hcall.mono ?_
                  rintro e w1 ⟨rfl, so, sg⟩
                  obtain ⟨tg2, hM2⟩ := HM4.out.talkSort (p := j) (by rw [htv]; exact sg) (by rw [htv]; exact so)
                  clear hcall hc3 hct
                  have hc3 := hM2.c3 (by simp)
                  have hct := hM2.tcell (by simp) j hjk
                  rw [htv] at hct
                  have hclen : ((s.tk j).mergeSort fun x y => decide (x ≤ y)).length ≤ 10000000 := by rw [List.length_mergeSort]; omega
                  have hown2 : IOwn w1.drew vj ((s.tk j).mergeSort fun x y => decide (x ≤ y)) := so
                  have hcall2 := compact_uniq vj (s.tk j) w1.drew hown2 hclen
                  have HMa : Hid (CMem [] w w1.drew C Ge Mb T k s.sz (.pointer (some ⟨R, 0, none⟩)) ev f tv (setI (tkTo s.tk j) j ((s.tk j).mergeSort fun x y => decide (x ≤ y))) s.pres s.rc s.sn tg2) := hM2.drew
                  have HTS := tkTo_succ s.tk j ((s.tk j).mergeSort fun x y => decide (x ≤ y))
                  have HTT : Hid (setI (setI (tkTo s.tk j) j ((s.tk j).mergeSort fun x y => decide (x ≤ y))) j (uniq (s.tk j)) = tkTo s.tk (j + 1)) := HTS
                  clear hM2 so sg hown2 HM4 hclen HTS
                  generalize setI (tkTo s.tk j) j ((s.tk j).mergeSort fun x y => decide (x ≤ y)) = tk5 at *
                  generalize uniq (s.tk j) = cl at *
                  have HTV : Hid (tv (j : Int) = vj) := htv
                  clear htv
                  go_upto_region 27 with fail
                  as_aux_lemma =>
                    clear HS HEV HPost HBs HRun
                    have HS0 : Hid (w1.drew.cell? ⟨C, 3, none⟩ = some (.slice (some ⟨T, 0, none⟩) k k) ∧ w1.drew.cell? ⟨T, j, none⟩ = some vj) := ⟨hc3, hct⟩
                    refine WL_start 14 (fun w' => w'.cell? ⟨C, 3, none⟩ = some (.slice (some ⟨T, 0, none⟩) k k) ∧ w'.cell? ⟨T, j, none⟩ = some vj) (by kernel_rfl) ?_
                    refine WL_take 0 (v := ?_) rfl (by kernel_rfl) (fun _ _ _ h => h) HS0.out (Or.inl ⟨by rfl, ?_⟩) ?_
                    rotate_left
                    · (intro wS hSw; (try dsimp only at hSw); go_simp; (try with_reducible rfl))
                    try simp only [Act.put, List.setIfInBounds_toArray, List.set_cons_zero, List.set_cons_succ]
                    refine WL_take 1 (v := ?_) rfl (by kernel_rfl) (fun _ _ _ h => h) HS0.out (Or.inl ⟨by rfl, ?_⟩) ?_
                    rotate_left
                    · (intro wS hSw; (try dsimp only at hSw); go_simp; (try with_reducible rfl))
                    try simp only [Act.put, List.setIfInBounds_toArray, List.set_cons_zero, List.set_cons_succ]
                    refine WL_take 2 (v := ?_) rfl (by kernel_rfl) (fun _ _ _ h => h) HS0.out (Or.inl ⟨by rfl, ?_⟩) ?_
                    rotate_left
                    · (intro wS hSw; (try dsimp only at hSw); go_simp; (try with_reducible rfl))
                    try simp only [Act.put, List.setIfInBounds_toArray, List.set_cons_zero, List.set_cons_succ]
                    refine WL_take 3 (v := ?_) rfl (by kernel_rfl) (fun _ _ _ h => h) HS0.out (Or.inl ⟨by rfl, ?_⟩) ?_
                    rotate_left
                    · (intro wS hSw; (try dsimp only at hSw); go_simp; (try with_reducible rfl))
                    try simp only [Act.put, List.setIfInBounds_toArray, List.set_cons_zero, List.set_cons_succ]
                    refine WL_take 4 (v := ?_) rfl (by kernel_rfl) (fun _ _ _ h => h) HS0.out (Or.inl ⟨by rfl, ?_⟩) ?_
                    rotate_left
                    · (intro wS hSw; (try dsimp only at hSw); go_simp; (try with_reducible rfl))
                    try simp only [Act.put, List.setIfInBounds_toArray, List.set_cons_zero, List.set_cons_succ]
                    refine WL_take 5 (v := ?_) rfl (by kernel_rfl) (fun _ _ _ h => h) HS0.out (Or.inl ⟨by rfl, ?_⟩) ?_
                    rotate_left
                    · (intro wS hSw; (try dsimp only at hSw); go_simp; (try with_reducible rfl))
                    try simp only [Act.put, List.setIfInBounds_toArray, List.set_cons_zero, List.set_cons_succ]
                    refine WL_take 6 (v := ?_) rfl (by kernel_rfl) (fun _ _ _ h => h) HS0.out (Or.inl ⟨by rfl, ?_⟩) ?_
                    rotate_left
                    · (intro wS hSw; (try dsimp only at hSw); go_simp; (try with_reducible rfl))
                    try simp only [Act.put, List.setIfInBounds_toArray, List.set_cons_zero, List.set_cons_succ]
                    refine WL_take 7 (v := ?_) rfl (by kernel_rfl) (fun _ _ _ h => h) HS0.out (Or.inl ⟨by rfl, ?_⟩) ?_
                    rotate_left
                    · (intro wS hSw; (try dsimp only at hSw); go_simp; (try with_reducible rfl))
                    try simp only [Act.put, List.setIfInBounds_toArray, List.set_cons_zero, List.set_cons_succ]
                    refine WL_take 8 (v := ?_) rfl (by kernel_rfl) (fun _ _ _ h => h) HS0.out (Or.inl ⟨by rfl, ?_⟩) ?_
                    rotate_left
                    · (intro wS hSw; (try dsimp only at hSw); go_simp; (try with_reducible rfl))
                    try simp only [Act.put, List.setIfInBounds_toArray, List.set_cons_zero, List.set_cons_succ]
                    refine WL_take 9 (v := ?_) rfl (by kernel_rfl) (fun _ _ _ h => h) HS0.out (Or.inl ⟨by rfl, ?_⟩) ?_
                    rotate_left
                    · (intro wS hSw; (try dsimp only at hSw); go_simp; (try with_reducible rfl))
                    try simp only [Act.put, List.setIfInBounds_toArray, List.set_cons_zero, List.set_cons_succ]
                    refine WL_take 10 (v := ?_) rfl (by kernel_rfl) (fun _ _ _ h => h) HS0.out (Or.inl ⟨by rfl, ?_⟩) ?_
                    rotate_left
                    · (intro wS hSw; (try dsimp only at hSw); go_simp; (try with_reducible rfl))
                    try simp only [Act.put, List.setIfInBounds_toArray, List.set_cons_zero, List.set_cons_succ]
                    refine WL_take 11 (v := ?_) rfl (by kernel_rfl) (fun _ _ _ h => h) HS0.out (Or.inl ⟨by rfl, ?_⟩) ?_
                    rotate_left
                    · (intro wS hSw; (try dsimp only at hSw); go_simp; (try with_reducible rfl))
                    try simp only [Act.put, List.setIfInBounds_toArray, List.set_cons_zero, List.set_cons_succ]
                    refine WL_step 12 rfl (by kernel_rfl) (fun K hK => ?_)
                    go_simp
                    refine hcall2.mono ?_
                    rintro e w3 ⟨ax, cx, nx, rfl, rfl, r1, r2, r3⟩
                    obtain ⟨q1, q2, q3, q4⟩ := HMa.out.talkNew (p := j) hjk r1 (HTV.out.symm ▸ r2) (HTV.out.symm ▸ .inl r3)
                    rw [HTV.out] at q2
                    go_wp2_with fail
                    refine hK.out _ _ (fun _ => ⟨q1, q2⟩) ?_
                    clear hK K
                    try simp only [Act.put, List.setIfInBounds_toArray, List.set_cons_zero, List.set_cons_succ]
                    refine WL_take 13 (v := ?_) rfl (by kernel_rfl) (fun _ _ _ h => h) ⟨q1, q2⟩ (Or.inl ⟨by rfl, ?_⟩) ?_
                    rotate_left
                    · (intro wS hSw; (try dsimp only at hSw); go_simp; (try with_reducible rfl))
                    try simp only [Act.put, List.setIfInBounds_toArray, List.set_cons_zero, List.set_cons_succ]
                    refine WL_step 14 rfl (by kernel_rfl) (fun K hK => ?_)
                    go_simp
                    refine hK.out _ _ (fun h => absurd rfl h) ?_
                    clear hK K
                    try simp only [Act.put, List.setIfInBounds_toArray, List.set_cons_zero, List.set_cons_succ]
                    refine WL_done (by kernel_rfl) ?_
                    all_goals
                      obtain ⟨tg4, q5⟩ := q4
                      rw [HTT.out] at q5
                      have hN : NC w _ C Ge Mb T k (.pointer (some ⟨R, 0, none⟩)) ev { s with tk := tkTo s.tk (j + 1) } := ⟨f, _, tg4, q5⟩
                      clear q5 q1 q2 q3 r1 r2 r3
                      go_wp2
                      go_roundw
                      case rel => exact ⟨j + 1, hjk, by go_num, hN⟩
                      case measure => simp [intOf]; omega
                · have ej : j = k := by omega
                  subst ej
                  go_wp2
                  go_ret
                  refine ⟨C, Ge, Mb, T, rfl, ?_⟩
                  rw [← HEV.out]
                  exact ⟨f, tv, tg1, hM⟩
theorem ncc_spec : NCCSpec := fun R E np n c0 c2 c3 c4 a0 a2 a3 a4 ls pr sd sq w hn hnp hL hS hpl hpr hql hrun h2 h3 h4 => ncc_any R E np n c0 c2 c3 c4 a0 a2 a3 a4 ls pr sd sq w hn hnp hL hS hpl hpr hql hrun h2 h3 h4
end Go.Proofs.Qxb6603214a
