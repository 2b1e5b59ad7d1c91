import Derived.Test.Qxb6603214aLMem
import Derived.Deep.RegionWith
namespace Go.Proofs.Qxb6603214a
open Go.RowKit Go.Maps
set_option linter.unusedVariables false

theorem zero23 (w : World) : (zeroValue 23).run Try.prog w = .ok (.slice none 0 0) w := by kernel_rfl

/-- What holds at the head of the outer loop, 'k' rounds being left at most. -/
def OutRel (w : World) (G Nx capN Mb np n : Nat) (ls sd : List Int) (k : Nat) (v6 : Value) (wr : World) : Prop :=
  ∃ t nx rd W f sz gr capr m, v6 = .slice (some ⟨gr, 0, none⟩) m capr ∧ rd.length = m ∧ LMem w wr G Nx capN Mb gr capr sz f t nx rd W ∧ Work np n ls sd t nx W rd ∧ (n - Lamp.cnt t) * (np + 1) + m ≤ k ∧ sz + k ≤ 30000000
/-- What holds at the head of the inner loop, 'k' events of the lane being left. -/
def InRel (w : World) (G Nx capN Mb np n : Nat) (ls sd : List Int) (p gk : Nat) (k : Nat) (v6 v9 : Value) (wr : World) : Prop :=
  ∃ t nx rd W f sz gr capr m i, v6 = .slice (some ⟨gr, 0, none⟩) m capr ∧ v9 = .int .i64 (i : Nat) ∧ rd.length = m ∧ LMem w wr G Nx capN Mb gr capr sz f t nx rd W ∧ Work np n ls sd t nx W (rd ++ [(p : Int)]) ∧ nx.getD p 0 = (i : Int) ∧ (n - Lamp.cnt t) * (np + 1) + m + 1 ≤ gk ∧ sz + gk ≤ 30000000 ∧ ls.getD (p + 1) 0 - i = k

theorem rowP_set (k np : Nat) (h : k < np) : ((List.range k).map (fun (i : Nat) => (i : Int)) ++ List.replicate (np - k) 0).set k (k : Int) = (List.range (k + 1)).map (fun (i : Nat) => (i : Int)) ++ List.replicate (np - (k + 1)) 0 := by
  have e : List.replicate (np - k) (0 : Int) = 0 :: List.replicate (np - (k + 1)) 0 := by
    rw [show np - k = (np - (k + 1)) + 1 by omega, List.replicate_succ]
  rw [e, List.set_append_right _ _ (by simp)]
  simp [List.range_succ]

/-- What holds when 'ready' has been filled. -/
theorem out_start {w wc wr : World} {Nx capN np n : Nat} {ls sd : List Int} (hL : Lanes np n ls) (hn : n ≤ 5000) (hnp : np ≤ 5000) (hrow : IRow wc Nx capN (ls.take np)) (hN : w.heap.size < Nx) (hG : IArr wc w.heap.size (List.replicate n 0)) (hb : Below w.heap.size w wc)
    (hR : IArr wr (wc.heap.size + 1) ((List.range np).map (fun (i : Nat) => (i : Int)))) (hb2 : Below (wc.heap.size + 1) (wc.alloc (.map #[] 0)) wr) :
    OutRel w w.heap.size Nx capN wc.heap.size np n ls sd (n * (np + 1) + np) (.slice (some ⟨wc.heap.size + 1, 0, none⟩) np np) wr := by
  have hlt := hrow.lt
  have hsz := hb.size
  have hnx : ∀ q, q < np → (ls.take np).getD q 0 = ls.getD q 0 := fun q hq => by simp [hq]
  have hlen : ((List.range np).map (fun (i : Nat) => (i : Int))).length = np := by simp
  refine ⟨List.replicate n 0, ls.take np, _, fun _ => [], fun _ => .slice none 0 0, 0, wc.heap.size + 1, np, np, rfl, hlen, ?_, Work.start hL hnx (by rw [List.length_take, hL.len]; omega), ?_, ?_⟩
  · have hG2 : IArr wr w.heap.size (List.replicate n 0) := (hG.alloc _).below hb2 (by have := hG.lt; omega)
    exact {
      lam := hG2
      nxt := by
        have h1 := hrow.alloc (.map #[] 0)
        obtain ⟨a, b⟩ := h1
        refine ⟨a, ?_⟩
        rcases b with b | ⟨g', cap', cur, hv, r1, r2, r3⟩
        · exact .inl b
        · refine .inr ⟨g', cap', cur, hv, r1, ?_, r3⟩
          simp at hv
          rw [hb2.block g' (by omega)]
          exact r2
      rdy := by have := IRow.of_arr hR (by rw [hlen]; unfold maxLen; omega); rwa [hlen] at this
      map := (VMap.made wc 3 (.slice none 0 0)).below hb2 (by omega)
      waits := fun s => IOwn.nil _
      hb := fun s b hb => by simp [Value.ownBlock] at hb
      inj := fun s s' b hb => by simp [Value.ownBlock] at hb
      los := by have := hG.lt; omega
      ne := by have := hG.lt; omega
      below := (hb.alloc hsz _).trans (hb2.mono (by omega)) }
  · have : Lamp.cnt (List.replicate n (0 : Int)) = 0 := by unfold Lamp.cnt; rw [List.countP_eq_zero]; intro x hx; rw [List.mem_replicate] at hx; simp [hx.2]
    rw [this]; simp
  · have : n * (np + 1) ≤ 5000 * 5001 := Nat.mul_le_mul hn (by omega)
    omega

/-- The inner round that places an event. -/
theorem in_step {w w2 : World} {G Nx capN Mb np n : Nat} {ls sd t nx rd : List Int} {W : Int → List Int} {f1 : Lit → Value} {p i K gk sz sz' gr' capr' : Nat} (hL : Lanes np n ls) (hW : Work np n ls sd t nx W (rd ++ [(p : Int)])) (hp : p < np) (hi : nx.getD p 0 = (i : Int)) (hend : (i : Int) < ls.getD (p + 1) 0)
    (hwt : ¬ (0 ≤ sd.getD i 0 ∧ t.getD (sd.getD i 0).toNat 0 = 0)) (hmu : (n - Lamp.cnt t) * (np + 1) + rd.length + 1 ≤ K) (hsz : sz + K ≤ 30000000) (hsz' : sz' ≤ sz) (hkk : ls.getD (p + 1) 0 - i = (gk : Nat))
    (hM2 : LMem w w2 G Nx capN Mb gr' capr' sz' f1 (t.set i (Lamp.F (Lamp.firstB ls np) sd t i)) (nx.set p ((i : Int) + 1)) (rd ++ W i) (fun r => if r = (i : Int) then [] else W r)) :
    InRel w G Nx capN Mb np n ls sd p K (gk - 1) (.slice (some ⟨gr', 0, none⟩) (rd ++ W i).length capr') (.int .i64 ((i + 1 : Nat) : Int)) w2 := by
  have hpl := hW.place (W' := fun r => if r = (i : Int) then [] else W r) hL hp hi hend hwt (by simp) (fun r hr => by simp [hr])
  obtain ⟨hF, ht0, hin⟩ := hW.ready_F hL hp hi hend hwt
  have hst := hW.part.step hin ht0 hF
  have hc := hst.2
  have hle := Lamp.cnt_le (t.set i (Lamp.F (Lamp.firstB ls np) sd t i))
  rw [hst.1.len] at hle
  have hnl := nodup_range_le _ _ hpl.nodup hpl.rng
  simp only [List.length_append, List.length_singleton] at hnl
  refine ⟨_, _, _, _, f1, sz', gr', capr', _, i + 1, rfl, rfl, rfl, hM2, hpl, ?_, ?_, by omega, by omega⟩
  · rw [Lamp.getD_set _ _ _ _ (by rw [hW.nxlen]; exact hp), if_pos rfl]; omega
  · rw [hc] at hle ⊢
    obtain ⟨u, hu⟩ : ∃ u, n - Lamp.cnt t = u + 1 := ⟨n - Lamp.cnt t - 1, by omega⟩
    rw [hu] at hmu
    rw [show n - (Lamp.cnt t + 1) = u by omega]
    rw [Nat.add_mul] at hmu
    simp only [List.length_append]
    omega

set_option maxHeartbeats 8000000 in
set_option maxRecDepth 20000 in
theorem lamportTimes_any (R E gl c2 np n c0 c4 : Nat) (a0 a4 : Option Addr) (v3 : Value) (ls sd zs : List Int) (w : World) (hn : n ≤ 5000) (hnp : np ≤ 5000) (hL : Lanes np n ls) (hS : Senders n sd) (hzl : zs.length = n) (hc2 : ls.length ≤ c2)
    (hrun : RunAt w R (.slice a0 np c0) (.slice (some ⟨gl, 0, none⟩) ls.length c2) v3 (.slice a4 sd.length c4) E zs) (h1 : Ints w (some ⟨gl, 0, none⟩) ls) (h2 : Ints w a4 sd) :
    Calls Try.prog 37 #[.pointer (some ⟨R, 0, none⟩)] w (ModelMade n (Lamp.firstB ls np) sd w) := by
  have hmk := make_ints n (by omega)
  have hmk2 := make_ints np (by omega)
  have hmm := @run_makeMap Try.prog
  have k0 := hrun.c0
  have k1 := hrun.c1
  have k2 := hrun.c2
  have k4 := hrun.c4
  rw [hzl] at k1
  have hRw : R < w.heap.size := World.block_lt_of_cell? w _ k0
  have hln : (np : Int) ≤ (ls.length : Int) := by rw [hL.len]; omega
  have hlc : (np : Int) ≤ (c2 : Int) := by omega
  obtain ⟨bl, ol, hixl, hcl⟩ := ints_open h1
  obtain ⟨bs, os, hixs, hcs⟩ := ints_open h2
  have HCL : Hid (∀ j, j < ls.length → w.cell? ⟨bl, ol + j, none⟩ = some (.int .i64 (ls.getD j 0))) := hcl
  have HCS : Hid (∀ j, j < sd.length → w.cell? ⟨bs, os + j, none⟩ = some (.int .i64 (sd.getD j 0))) := hcs
  clear hcl hcs
  go_enter Try.func37, Try.ntmps37
  go_wp2
  go_cut [4] (fun v4 wc => ∃ Nx capN, v4 = .slice (some ⟨Nx, 0, none⟩) np capN ∧ IRow wc Nx capN (ls.take np) ∧ w.heap.size < Nx ∧ IArr wc w.heap.size (List.replicate n 0) ∧ Below w.heap.size w wc)
  case first =>
    have hit : Ints w (some ⟨gl, 0, none⟩) (ls.take np) := fun j hj => by
      simp only [List.length_take] at hj
      obtain ⟨b, off, e1, e2⟩ := h1 j (by omega)
      exact ⟨b, off, e1, by rw [e2]; simp [show j < np by omega]⟩
    have htl : (ls.take np).length = np := by rw [List.length_take, hL.len]; omega
    have hcl := fun c W (hb : Below w.heap.size w W) => sclone_at ⟨gl, 0, none⟩ c np (ls.take np) W htl (by omega) (hit.below hb (Nat.le_refl _))
    have HCL : Hid (∀ c W, Below w.heap.size w W → Calls Try.prog 42 #[.slice (some ⟨gl, 0, none⟩) np c] W fun e w' => ∃ g cap, e = .returned (.slice (some ⟨g, 0, none⟩) np cap) ∧ IRow w' g cap (ls.take np) ∧ W.heap.size ≤ g ∧ Below W.heap.size W w') := hcl
    clear hcl hit htl h1 h2 hrun hmk hmk2 hmm
    go_region_with (go_at_call 42; refine (HCL.out _ _ ?_).mono ?_; exact ((Below.refl _ _).alloc (Nat.le_refl _) _).drew; rintro e w' ⟨g, cap, rfl, h3, h4, h5⟩)
    all_goals
      go_wp2_with fail
      go_meet
      exact ⟨g, cap, rfl, h3, (by simp at h4; omega), IArr.below (w := (w.alloc _).drew) (IArr.made w n) h5 (by simp), (((Below.refl _ _).alloc (Nat.le_refl _) _).drew).trans (h5.mono (by simp))⟩
  case rest =>
    obtain ⟨Nx, capN, rfl, hrow, hN, hG, hb⟩ := hcut
    have k0' := cell_later hb k0
    have k2' := cell_later hb k2
    have k4' := cell_later hb k4
    have hRc : R < wc.heap.size := by have := hb.size; omega
    have hrowHid : Hid (IRow wc Nx capN (ls.take np)) := hrow
    clear hrow
    have hixR : ∀ (k : Nat) (w' : World), k < np → (Instr.indexAt 23 (.slice (some ⟨wc.heap.size + 1, 0, none⟩) np np) (.int .i64 k)).run Try.prog w' = .ok (.pointer (some ⟨wc.heap.size + 1, k, none⟩)) w' :=
      fun k w' hk => by simpa using indexAt_one Try.underlying23 Try.info3 (wc.heap.size + 1) 0 _ np k hk w'
    go_wp2
    go_loopw [37] (fun i wr => ∃ k : Nat, k ≤ np ∧ i = .int .i64 k ∧ IArr wr (wc.heap.size + 1) ((List.range k).map (fun (i : Nat) => (i : Int)) ++ List.replicate (np - k) 0) ∧ Below (wc.heap.size + 1) (wc.alloc (.map #[] 0)) wr) (fun i _ => np - (intOf i).toNat)
    case atStart =>
      refine ⟨0, Nat.zero_le _, rfl, ?_, ?_⟩
      · have := IArr.made (wc.alloc (.map #[] 0)) np
        simpa using this
      · exact (Below.refl _ _).alloc (by simp) _
    case round =>
      obtain ⟨k, hk, rfl, hR, hb2⟩ := hrel
      by_cases hkn : k < np
      · have g2 := hR.cell k (by simp; omega)
        have g3 := hR.frozen k
        have hst := hR.set k (k : Int)
        rw [rowP_set k np hkn] at hst
        generalize (((List.range k).map (fun (i : Nat) => (i : Int)) ++ List.replicate (np - k) 0)).getD k 0 = y at g2
        go_wp2
        go_roundw
        case rel => exact ⟨k + 1, by omega, by go_num, hst, hb2.setCell (by simp) _⟩
        case measure => simp [intOf]; omega
      · obtain rfl : k = np := by omega
        have hR' : IArr wr (wc.heap.size + 1) ((List.range k).map (fun (i : Nat) => (i : Int))) := by simpa using hR
        have hstart := out_start (sd := sd) hL hn hnp hrowHid.out hN hG hb hR' hb2
        clear hR hR' hb2 hixR
        go_wp2
        go_loopg [6] (n * (k + 1) + k) (fun g v6 wq => OutRel w w.heap.size Nx capN wc.heap.size k n ls sd g v6 wq)
        case atStart => exact hstart
        case round =>
          clear hstart
          generalize gk = K at *
          obtain ⟨t, nx, rd, W, f, sz, gr, capr, m, rfl, hm, hM, hW, hmu, hsz⟩ := hrel
          have k2r := cell_later hM.below k2
          have k4r := cell_later hM.below k4
          have HI1 : Hid (Ints wr (some ⟨gl, 0, none⟩) ls) := h1.below hM.below (Nat.le_refl _)
          cases m with
          | zero =>
            have hrd : rd = [] := List.length_eq_zero_iff.1 hm
            go_wp2
            go_ret
            exact ⟨_, t, rfl, hM.lam, (hrd ▸ hW).fix hL, hM.below⟩
          | succ m =>
            obtain ⟨rd, x, rfl⟩ : ∃ rd' x, rd = rd' ++ [x] := ⟨rd.dropLast, rd.getLast (by intro e; rw [e] at hm; simp at hm), by rw [List.dropLast_concat_getLast]⟩
            have hx := hW.rng x (by simp)
            obtain ⟨p, rfl⟩ := Int.eq_ofNat_of_zero_le hx.1
            have hpk : p < k := by omega
            obtain rfl : rd.length = m := by simpa using hm
            have q1 := hM.rdy.cell rd.length (by simp)
            have e1 : (rd ++ [(p : Int)]).getD rd.length 0 = (p : Int) := by simp
            rw [e1] at q1
            have q2 := hM.nxt.cell p (by rw [hW.nxlen]; exact hpk)
            have hM' := hM.less
            have hnlo := hW.nxlo p hpk
            have hnhi := hW.nxhi p hpk
            have hllo := hL.lo p (by omega)
            obtain ⟨i0, hi0⟩ := Int.eq_ofNat_of_zero_le (show 0 ≤ nx.getD p 0 by omega)
            rw [hi0] at q2
            have hin : InRel w w.heap.size Nx capN wc.heap.size k n ls sd p K (ls.getD (p + 1) 0 - i0).toNat (.slice (some ⟨gr, 0, none⟩) rd.length capr) (.int .i64 (i0 : Nat)) wr :=
              ⟨t, nx, rd, W, f, sz, gr, capr, rd.length, i0, rfl, rfl, rfl, hM', hW, hi0, by omega, hsz, by omega⟩
            have hix1 : ∀ (w' : World), (Instr.indexAt 23 (.slice (some ⟨gr, 0, none⟩) (rd.length + 1) capr) (.int .i64 rd.length)).run Try.prog w' = .ok (.pointer (some ⟨gr, rd.length, none⟩)) w' :=
              fun w' => by simpa using indexAt_one Try.underlying23 Try.info3 gr 0 _ capr rd.length (by omega) w'
            have hix2 : ∀ (w' : World), (Instr.indexAt 23 (.slice (some ⟨Nx, 0, none⟩) k capN) (.int .i64 p)).run Try.prog w' = .ok (.pointer (some ⟨Nx, p, none⟩)) w' :=
              fun w' => by simpa using indexAt_one Try.underlying23 Try.info3 Nx 0 _ capN p hpk w'
            have hrl : rd.length + 1 ≤ k := by have := nodup_range_le _ _ hW.nodup hW.rng; simpa using this
            have hcap : rd.length + 1 ≤ capr := by have := hM.rdy.room.1; simpa using this
            clear hM hM' hW hm hx hi0 hmu hsz hnlo hnhi hllo e1
            go_wp2
            clear q1 q2 hix1 hix2 hrl hcap k2r k4r HI1
            go_loopg [6, 9] (ls.getD (p + 1) 0 - i0).toNat (fun g v6 v9 wq => InRel w w.heap.size Nx capN wc.heap.size k n ls sd p K g v6 v9 wq)
            case atStart => exact hin
            case round =>
              clear hin
              obtain ⟨t, nx, rd, W, f, sz, gr, capr, m, i, rfl, rfl, rfl, hM, hW, hi, hmu, hsz, hkk⟩ := hrel
              have k2r := cell_later hM.below k2
              have k4r := cell_later hM.below k4
              have hlo1 := hL.lo (p + 1) (by omega)
              have hhi1 := hL.hi (p + 1) (by omega)
              have g1 : wr.cell? ⟨bl, ol + (p + 1), none⟩ = some (.int .i64 (ls.getD (p + 1) 0)) := cell_later hM.below (HCL.out (p + 1) (by rw [hL.len]; omega))
              have hixl1 : ∀ w', (Instr.indexAt 23 (.slice (some ⟨gl, 0, none⟩) ls.length c2) (.int .i64 ((p : Int) + 1))).run Try.prog w' = .ok (.pointer (some ⟨bl, ol + (p + 1), none⟩)) w' := fun w' => by simpa using hixl c2 (p + 1) w' (by rw [hL.len]; omega)
              by_cases hend : (i : Int) < ls.getD (p + 1) 0
              · have hin : i < n := by omega
                have hns : i < sd.length := by rw [hS.len]; exact hin
                have g2 : wr.cell? ⟨bs, os + i, none⟩ = some (.int .i64 (sd.getD i 0)) := cell_later hM.below (HCS.out i hns)
                have hslt := hS.lt i hin
                have hixT : ∀ (k : Nat) (w' : World), k < n → (Instr.indexAt 23 (.slice (some ⟨w.heap.size, 0, none⟩) n n) (.int .i64 k)).run Try.prog w' = .ok (.pointer (some ⟨w.heap.size, k, none⟩)) w' :=
                  fun k w' hk => by simpa using indexAt_one Try.underlying23 Try.info3 w.heap.size 0 _ n k hk w'
                by_cases hwt : 0 ≤ sd.getD i 0 ∧ t.getD (sd.getD i 0).toNat 0 = 0
                · -- it waits
                  obtain ⟨sv, hsv⟩ := Int.eq_ofNat_of_zero_le hwt.1
                  have esv : (sd.getD i 0).toNat = sv := by omega
                  have hsn : sv < n := by omega
                  have g3 := hM.lam.cell sv (by rw [hW.part.len]; exact hsn)
                  rw [show t.getD sv 0 = 0 from esv ▸ hwt.2] at g3
                  have hinx : (nx.getD p 0).toNat = i := by omega
                  have hwl : (W (sv : Int)).length ≤ k := nodup_range_le _ _ (hW.wnodup _) (fun x hx => by obtain ⟨a, b, _⟩ := hW.wrng _ x hx; exact ⟨a, b⟩)
                  have hW1 := hW.wait (s := (sv : Int)) (W' := fun r => if r = (sv : Int) then W (sv : Int) ++ [(p : Int)] else W r) hpk (by omega) (by rw [hinx, hsv]) (by omega) (by rw [show ((sv : Int)).toNat = sv by omega, ← esv]; exact hwt.2) (by simp) (fun r hr => by simp [hr])
                  have hMa := hM.alloc (.cells #[.int .i64 (p : Int)] 3)
                  have hszm : sz < maxLen := by unfold maxLen; omega
                  have HMU : Hid ((n - Lamp.cnt t) * (k + 1) + rd.length ≤ K - 1 ∧ sz + 1 + (K - 1) ≤ 30000000 ∧ K - 1 < K) := (by refine ⟨?_, ?_, ?_⟩ <;> omega)
                  rw [hsv] at g2
                  clear hwt hsv esv hslt hinx hkk hi hmu hsz hW
                  generalize ls.getD (p + 1) 0 = L1 at *
                  go_wp2_with (first | (at_lookup; refine wpList_vlook rfl _ _ 80 rfl intKeyed Try.underlying80 zero23 rfl hM.map _ _ rfl (keyInt _ (by omega) (by omega)) ?_) | (at_builtin; refine wpList_iappend1 rfl _ _ rfl (f (.int .i64 (sv : Int))) (W (sv : Int)) (p : Int) wr.heap.size rfl (hMa.waits _) rfl (by simp) (by omega) ?_; intro g cap w1 hrow hgrow hloc) | (at_mapUpdate; refine wpList_vput rfl _ _ _ 80 rfl intKeyed Try.underlying80 rfl (hMa.wait1 hrow hgrow hloc) hszm _ (.slice (some ⟨g, 0, none⟩) ((W (sv : Int)).length + 1) cap) _ rfl rfl (keyInt _ (by omega) (by omega)) (by simp) ?_; intro w2 sz' f1 hm2 hu hg2 he1 he2))
                  have hsz' : sz' ≤ sz + 1 := by
                    by_cases e : f (.int .i64 (sv : Int)) = .slice none 0 0
                    · have := he2 e; omega
                    · have := he1 e; omega
                  go_roundg (K - 1)
                  case measure => exact HMU.out.2.2
                  case rel => exact ⟨t, nx, rd, _, f1, sz', gr, capr, _, rfl, rfl, hMa.wait hrow hgrow hloc hm2 hu hg2 (by simp) (fun r hr => by simp [hr]), hW1, HMU.out.1, (by have := HMU.out.2.1; omega)⟩
                · obtain ⟨hFne, ht0, _⟩ := hW.ready_F hL hpk hi hend hwt
                  have g3 := hM.lam.cell i (by rw [hW.part.len]; exact hin)
                  rw [ht0] at g3
                  have g3f := hM.lam.frozen i
                  have hpn : p < nx.length := by rw [hW.nxlen]; exact hpk
                  have g4 := hM.nxt.cell p hpn
                  rw [hi] at g4
                  have g4f := hM.nxt.frozen p
                  have g0 : wr.cell? ⟨bl, ol + p, none⟩ = some (.int .i64 (ls.getD p 0)) := cell_later hM.below (HCL.out p (by rw [hL.len]; omega))
                  have hixl0 : ∀ w', (Instr.indexAt 23 (.slice (some ⟨gl, 0, none⟩) ls.length c2) (.int .i64 (p : Int))).run Try.prog w' = .ok (.pointer (some ⟨bl, ol + p, none⟩)) w' := fun w' => hixl c2 p w' (by rw [hL.len]; omega)
                  have hixN : ∀ (w' : World), (Instr.indexAt 23 (.slice (some ⟨Nx, 0, none⟩) k capN) (.int .i64 (p : Int))).run Try.prog w' = .ok (.pointer (some ⟨Nx, p, none⟩)) w' :=
                    fun w' => by simpa using indexAt_one Try.underlying23 Try.info3 Nx 0 _ capN p hpk w'
                  have hff := hL.first_iff hpk (i := i) (by have := hW.nxlo p hpk; omega) hend
                  have hplo := hW.nxlo p hpk
                  have hcl := Lamp.cnt_le t
                  rw [hW.part.len] at hcl
                  have hlen : rd.length + (W (i : Int)).length ≤ k := by
                    have hpl := hW.place (W' := fun r => if r = (i : Int) then [] else W r) hL hpk hi hend hwt (by simp) (fun r hr => by simp [hr])
                    have := nodup_range_le _ _ hpl.nodup hpl.rng
                    simp only [List.length_append, List.length_singleton] at this
                    omega
                  have hGN : Nx ≠ w.heap.size := by have := hM.ne.1; omega
                  have HG : Hid (gk - 1 < gk) := (by show gk - 1 < gk; omega)
                  have HIN : Hid (∀ w2 sz' f1 gr' capr', sz' ≤ sz → LMem w w2 w.heap.size Nx capN wc.heap.size gr' capr' sz' f1 (t.set i (Lamp.F (Lamp.firstB ls k) sd t i)) (nx.set p ((i : Int) + 1)) (rd ++ W i) (fun r => if r = (i : Int) then [] else W r) →
                      InRel w w.heap.size Nx capN wc.heap.size k n ls sd p K (gk - 1) (.slice (some ⟨gr', 0, none⟩) (rd.length + (W i).length) capr') (.int .i64 ((i : Int) + 1)) w2) :=
                    fun w2 sz' f1 gr' capr' hle hM2 => by have := in_step hL hW hpk hi hend hwt hmu hsz hle hkk hM2; rwa [List.length_append, show ((i + 1 : Nat) : Int) = (i : Int) + 1 from by omega] at this
                  clear hmu hsz hkk hFne
                  by_cases hfst : ls.getD p 0 = i
                  · rw [hfst] at g0
                    by_cases hs0 : 0 ≤ sd.getD i 0
                    · obtain ⟨m, hm⟩ := Int.eq_ofNat_of_zero_le hs0
                      have em : (sd.getD i 0).toNat = m := by omega
                      have hmn : m < n := by omega
                      have gm := hM.lam.cell m (by rw [hW.part.len]; exact hmn)
                      have hz0 : t.getD m 0 ≠ 0 := fun h => hwt ⟨hs0, by rw [em]; exact h⟩
                      have hzb := hW.part.bound m
                      have hzn := hW.part.nonneg m
                      have hmi : m ≠ i := fun e => hz0 (e ▸ ht0)
                      have HFv : Lamp.F (Lamp.firstB ls k) sd t i = t.getD m 0 + 1 := by
                        unfold Lamp.F; rw [hff, decide_eq_true hfst, if_neg (by simp), if_neg hwt, em]; simp only [if_true]; rw [if_pos ⟨hs0, by omega⟩]
                      rw [HFv] at HIN
                      rw [hm] at g2
                      generalize t.getD m 0 = z at *
                      have hzz : (z == 0) = false := by simpa using hz0
                      have hzp : 0 < z := by omega
                      have hM1 := (((hM.setT i z).drew.setT i (z + 1)).setN p ((i : Int) + 1) hpn)
                      clear hW hi hff HFv hfst hplo hwt hs0 hm em hslt
                      generalize ls.getD (p + 1) 0 = L1 at *
                      go_wp2
                      go_region
                      go_wp2_with (first | (at_lookup; refine wpList_vlook rfl _ _ 80 rfl intKeyed Try.underlying80 zero23 rfl hM1.map _ _ rfl (keyInt _ (by omega) (by omega)) ?_) | (at_builtin; refine wpList_iappendS rfl _ _ rfl gr capr rd (f (.int .i64 (i : Int))) (W (i : Int)) rfl hM1.rdy rfl (hM1.waits _) (by omega) ?_; intro gr' capr' w1 hrow hgrow hloc) | (at_delete; refine wpList_vdel rfl _ _ 80 3 rfl intKeyed Try.underlying80 rfl (hM1.more hrow hgrow hloc).map _ _ rfl (keyInt _ (by omega) (by omega)) ?_; intro w2 sz' f1 hm2 hu hg2 hle))
                      have hM2 := (hM1.more hrow hgrow hloc).del hm2 hu hg2 (W' := fun r => if r = (i : Int) then [] else W r) (by simp) (fun r hr => by simp [hr])
                      try simp only [List.set_set] at hM2
                      go_roundg (gk - 1)
                      case measure => exact HG.out
                      case rel => exact HIN.out w2 sz' f1 gr' capr' hle hM2
                    · have HFv : Lamp.F (Lamp.firstB ls k) sd t i = 1 := by
                        unfold Lamp.F; rw [hff, decide_eq_true hfst, if_neg (by simp), if_neg hwt]; simp only [if_true]; rw [if_neg (fun h => hs0 h.1)]; rfl
                      rw [HFv] at HIN
                      have hM1 := (hM.setT i 1).setN p ((i : Int) + 1) hpn
                      clear hW hi hff HFv hfst hplo hwt
                      generalize ls.getD (p + 1) 0 = L1 at *
                      generalize sd.getD i 0 = sv at *
                      go_wp2_with (first | (at_lookup; refine wpList_vlook rfl _ _ 80 rfl intKeyed Try.underlying80 zero23 rfl hM1.map _ _ rfl (keyInt _ (by omega) (by omega)) ?_) | (at_builtin; refine wpList_iappendS rfl _ _ rfl gr capr rd (f (.int .i64 (i : Int))) (W (i : Int)) rfl hM1.rdy rfl (hM1.waits _) (by omega) ?_; intro gr' capr' w1 hrow hgrow hloc) | (at_delete; refine wpList_vdel rfl _ _ 80 3 rfl intKeyed Try.underlying80 rfl (hM1.more hrow hgrow hloc).map _ _ rfl (keyInt _ (by omega) (by omega)) ?_; intro w2 sz' f1 hm2 hu hg2 hle))
                      have hM2 := (hM1.more hrow hgrow hloc).del hm2 hu hg2 (W' := fun r => if r = (i : Int) then [] else W r) (by simp) (fun r hr => by simp [hr])
                      try simp only [List.set_set] at hM2
                      go_roundg (gk - 1)
                      case measure => exact HG.out
                      case rel => exact HIN.out w2 sz' f1 gr' capr' hle hM2
                  · have hfb : decide (ls.getD p 0 = (i : Int)) = false := decide_eq_false hfst
                    have hi1 : 1 ≤ i := by have := hL.lo p (by omega); omega
                    have gy := hM.lam.cell (i - 1) (by rw [hW.part.len]; omega)
                    have hixm : ∀ w', (Instr.indexAt 23 (.slice (some ⟨w.heap.size, 0, none⟩) n n) (.int .i64 ((i : Int) - 1))).run Try.prog w' = .ok (.pointer (some ⟨w.heap.size, i - 1, none⟩)) w' := fun w' => by
                      have := hixT (i - 1) w' (by omega)
                      rwa [show ((i - 1 : Nat) : Int) = (i : Int) - 1 from by omega] at this
                    have hyb := hW.part.bound (i - 1)
                    have hyn := hW.part.nonneg (i - 1)
                    have hy0 := hW.done p hpk (i - 1) (by omega) (by omega)
                    have hlt0 : ls.getD p 0 < i := by omega
                    by_cases hs0 : 0 ≤ sd.getD i 0
                    · obtain ⟨m, hm⟩ := Int.eq_ofNat_of_zero_le hs0
                      have em : (sd.getD i 0).toNat = m := by omega
                      have hmn : m < n := by omega
                      have gm := hM.lam.cell m (by rw [hW.part.len]; exact hmn)
                      have hz0 : t.getD m 0 ≠ 0 := fun h => hwt ⟨hs0, by rw [em]; exact h⟩
                      have hzb := hW.part.bound m
                      have hzn := hW.part.nonneg m
                      have hmi : m ≠ i := fun e => hz0 (e ▸ ht0)
                      generalize hyy : t.getD (i - 1) 0 = y at gy hyb hyn hy0
                      by_cases hyz : y < t.getD m 0
                      · have HFv : Lamp.F (Lamp.firstB ls k) sd t i = t.getD m 0 + 1 := by
                          unfold Lamp.F; rw [hff, hfb, if_neg (fun h => hy0 (hyy ▸ h.2)), if_neg hwt, em]; simp only [Bool.false_eq_true, if_false, hyy]; rw [if_pos ⟨hs0, hyz⟩]
                        rw [HFv] at HIN
                        rw [hm] at g2
                        clear hyy
                        generalize t.getD m 0 = z at *
                        have hzz : (z == 0) = false := by simpa using hz0
                        have hM1 := ((((hM.setT i y).setT i z).drew.setT i (z + 1)).setN p ((i : Int) + 1) hpn)
                        clear hW hi hff HFv hfst hplo hwt hs0 hm em hslt hfb
                        generalize ls.getD (p + 1) 0 = L1 at *
                        generalize ls.getD p 0 = L0 at *
                        go_wp2
                        go_region
                        go_wp2_with (first | (at_lookup; refine wpList_vlook rfl _ _ 80 rfl intKeyed Try.underlying80 zero23 rfl hM1.map _ _ rfl (keyInt _ (by omega) (by omega)) ?_) | (at_builtin; refine wpList_iappendS rfl _ _ rfl gr capr rd (f (.int .i64 (i : Int))) (W (i : Int)) rfl hM1.rdy rfl (hM1.waits _) (by omega) ?_; intro gr' capr' w1 hrow hgrow hloc) | (at_delete; refine wpList_vdel rfl _ _ 80 3 rfl intKeyed Try.underlying80 rfl (hM1.more hrow hgrow hloc).map _ _ rfl (keyInt _ (by omega) (by omega)) ?_; intro w2 sz' f1 hm2 hu hg2 hle))
                        have hM2 := (hM1.more hrow hgrow hloc).del hm2 hu hg2 (W' := fun r => if r = (i : Int) then [] else W r) (by simp) (fun r hr => by simp [hr])
                        try simp only [List.set_set] at hM2
                        go_roundg (gk - 1)
                        case measure => exact HG.out
                        case rel => exact HIN.out w2 sz' f1 gr' capr' hle hM2
                      · have HFv : Lamp.F (Lamp.firstB ls k) sd t i = y + 1 := by
                          unfold Lamp.F; rw [hff, hfb, if_neg (fun h => hy0 (hyy ▸ h.2)), if_neg hwt, em]; simp only [Bool.false_eq_true, if_false, hyy]; rw [if_neg (fun h => hyz h.2)]
                        rw [HFv] at HIN
                        rw [hm] at g2
                        clear hyy
                        generalize t.getD m 0 = z at *
                        have hzz : (z == 0) = false := by simpa using hz0
                        have hM1 := ((((hM.setT i y).setT i y).drew.setT i (y + 1)).setN p ((i : Int) + 1) hpn)
                        clear hW hi hff HFv hfst hplo hwt hs0 hm em hslt hfb
                        generalize ls.getD (p + 1) 0 = L1 at *
                        generalize ls.getD p 0 = L0 at *
                        go_wp2
                        go_region
                        go_wp2_with (first | (at_lookup; refine wpList_vlook rfl _ _ 80 rfl intKeyed Try.underlying80 zero23 rfl hM1.map _ _ rfl (keyInt _ (by omega) (by omega)) ?_) | (at_builtin; refine wpList_iappendS rfl _ _ rfl gr capr rd (f (.int .i64 (i : Int))) (W (i : Int)) rfl hM1.rdy rfl (hM1.waits _) (by omega) ?_; intro gr' capr' w1 hrow hgrow hloc) | (at_delete; refine wpList_vdel rfl _ _ 80 3 rfl intKeyed Try.underlying80 rfl (hM1.more hrow hgrow hloc).map _ _ rfl (keyInt _ (by omega) (by omega)) ?_; intro w2 sz' f1 hm2 hu hg2 hle))
                        have hM2 := (hM1.more hrow hgrow hloc).del hm2 hu hg2 (W' := fun r => if r = (i : Int) then [] else W r) (by simp) (fun r hr => by simp [hr])
                        try simp only [List.set_set] at hM2
                        go_roundg (gk - 1)
                        case measure => exact HG.out
                        case rel => exact HIN.out w2 sz' f1 gr' capr' hle hM2
                    · have HFv : Lamp.F (Lamp.firstB ls k) sd t i = t.getD (i - 1) 0 + 1 := by
                        unfold Lamp.F; rw [hff, hfb, if_neg (fun h => hy0 h.2), if_neg hwt]; simp only [Bool.false_eq_true, if_false]; rw [if_neg (fun h => hs0 h.1)]
                      rw [HFv] at HIN
                      generalize t.getD (i - 1) 0 = y at *
                      have hM1 := ((hM.setT i y).setT i (y + 1)).setN p ((i : Int) + 1) hpn
                      clear hW hi hff HFv hfst hplo hwt hfb
                      generalize ls.getD (p + 1) 0 = L1 at *
                      generalize ls.getD p 0 = L0 at *
                      generalize sd.getD i 0 = sv at *
                      go_wp2_with (first | (at_lookup; refine wpList_vlook rfl _ _ 80 rfl intKeyed Try.underlying80 zero23 rfl hM1.map _ _ rfl (keyInt _ (by omega) (by omega)) ?_) | (at_builtin; refine wpList_iappendS rfl _ _ rfl gr capr rd (f (.int .i64 (i : Int))) (W (i : Int)) rfl hM1.rdy rfl (hM1.waits _) (by omega) ?_; intro gr' capr' w1 hrow hgrow hloc) | (at_delete; refine wpList_vdel rfl _ _ 80 3 rfl intKeyed Try.underlying80 rfl (hM1.more hrow hgrow hloc).map _ _ rfl (keyInt _ (by omega) (by omega)) ?_; intro w2 sz' f1 hm2 hu hg2 hle))
                      have hM2 := (hM1.more hrow hgrow hloc).del hm2 hu hg2 (W' := fun r => if r = (i : Int) then [] else W r) (by simp) (fun r hr => by simp [hr])
                      try simp only [List.set_set] at hM2
                      go_roundg (gk - 1)
                      case measure => exact HG.out
                      case rel => exact HIN.out w2 sz' f1 gr' capr' hle hM2
              · have hthru := hW.through hpk (by have := hW.nxhi p hpk; omega)
                have HMU : Hid ((n - Lamp.cnt t) * (k + 1) + rd.length ≤ K - 1 ∧ sz + (K - 1) ≤ 30000000 ∧ K - 1 < K) := (by refine ⟨?_, ?_, ?_⟩ <;> omega)
                generalize ls.getD (p + 1) 0 = L1 at *
                go_wp2
                go_roundg (K - 1)
                case measure => exact HMU.out.2.2
                case rel => exact ⟨t, nx, rd, W, f, sz, gr, capr, _, rfl, rfl, hM, hthru, HMU.out.1, HMU.out.2.1⟩
end Go.Proofs.Qxb6603214a
