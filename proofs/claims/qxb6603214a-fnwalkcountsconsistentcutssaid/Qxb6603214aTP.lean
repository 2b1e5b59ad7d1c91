import Derived.Test.Qxb6603214aTZ
namespace Go.Proofs.Qxb6603214a
open Go.RowKit Go.Maps WalkP
set_option linter.unusedVariables false

set_option maxHeartbeats 40000000 in
set_option maxRecDepth 1000000 in
theorem tail_pos (code : Code) (hcode : code = (Try.f41.body.bind (fromRegion 18)).getD .skip) (z3 z4 z5 z6 z7 z8 z11 z12 z13 z14 z15 z18 z19 z20 z21 z22 z23 z24 z25 z26 z27 z28 z29 z30 z31 z32 z33 z34 z35 z36 z37 z38 z39 z40 z41 z42 z43 z44 z45 z46 z47 z48 z49 z50 z51 z52 z53 z54 z55 z56 z57 z58 z59 z60 z61 z62 z63 z64 z65 z66 z67 z68 z69 z70 z71 z72 z73 z74 z75 z76 z77 z78 z79 z80 z81 z82 z83 z84 z85 z86 z87 z88 z89 z90 z91 z92 z93 z94 z95 z96 z97 z98 z99 z100 z101 z102 z103 z104 z105 z106 z107 z108 z109 z110 z111 z112 z113 z114 z115 z116 z117 z118 z119 z120 z121 z122 z123 z124 z125 z126 z127 z128 z129 z130 z131 z132 z133 z134 z135 z136 z137 z138 z139 z140 z141 z142 z143 z144 z145 z146 z147 z148 z149 z150 z151 z152 z153 z154 z155 z156 z157 z158 z159 z160 z161 z162 z163 z164 z165 z166 z167 z168 z169 z170 z171 z172 z173 z174 z175 z176 z177 z178 z179 z180 z181 z182 z183 z184 z185 z186 z187 z188 z189 z190 z191 z192 z193 z194 z195 z196 z197 z198 z199 z200 z201 z202 z203 z204 z205 z206 z207 z208 z209 z210 z211 z212 z213 z214 z215 z216 z217 z218 z219 z220 z221 z222 z223 z224 z225 z226 z227 z228 z229 z230 z231 z232 z233 z234 z235 z236 z237 z238 z239 z240 z241 z242 z243 z244 z245 z246 z247 z248 z249 z250 z251 z252 z253 z254 z255 z256 z257 z258 z259 z260 z261 z262 z263 z264 z265 z266 z267 z268 z269 z270 z271 z272 z273 z274 z275 z276 z277 z278 z279 z280 z281 z282 z283 z284 z285 z286 z287 z288 z289 z290 z291 z292 z293 z294 z295 z296 z297 z298 z299 z300 z301 z302 z303 z304 z305 z306 z307 z308 z309 z310 z311 z312 z313 z314 z315 z316 z317 z318 z319 z320 z321 z322 z323 z324 z325 z326 z327 z328 z329 z330 z331 z332 z333 z334 z335 z336 z337 z338 z339 z340 z341 z342 z343 z344 z345 z346 : Value) (R E C Ge np n g c0 c2 c3 c4 cg : Nat) (a0 a2 a3 a4 ag : Option Addr) (ls pr sd sq grp : List Int) (B : Int) (w : World) (hn : n ≤ 5000) (hnp : np ≤ 5000) (hgl : g ≤ 5000) (hSh : Shape np n ls pr sd) (hql : sq.length = n) (hgg : grp.length = g) (hgr : ∀ j, j < g → InR np (grp.getD j 0))
    (hB0 : -9223372036854775808 ≤ B) (hB : B ≤ 9223372036854775807) (M : Nat) (hM : M ≤ 1000000000000) (hRM : 0 < g → ∀ k, Runs (ctxOf np g grp ls pr sd sq) B k → (st (ctxOf np g grp ls pr sd sq) k).steps ≤ M)
    (hC0 : w.cell? ⟨C, 0, none⟩ = some (.pointer (some ⟨R, 0, none⟩))) (hC1 : w.cell? ⟨C, 1, none⟩ = some (.slice (some ⟨Ge, 0, none⟩) np np)) (hev : IArr w Ge (evTo ls np np))
    (hrun : RunAt w R (.slice a0 np c0) (.slice a2 ls.length c2) (.slice a3 pr.length c3) (.slice a4 sd.length c4) E sq) (h2 : Ints w a2 ls) (h3 : Ints w a3 pr) (h4 : Ints w a4 sd) (h5 : Ints w ag grp)
    (H Rb : Nat) (wc : World) (m1 : IArr wc w.heap.size (locN grp np g)) (m2 : IArr wc H (List.replicate g 0)) (m3 : IArr wc Rb (List.replicate g 0)) (m4 : w.heap.size ≠ H ∧ w.heap.size ≠ Rb ∧ H ≠ Rb) (m5 : w.heap.size ≤ w.heap.size ∧ w.heap.size ≤ H ∧ w.heap.size ≤ Rb) (m6 : Below w.heap.size w wc) (hjp : 0 < g) (hLE : (pf (frOf (ctxOf np g grp ls pr sd sq)) 0 g : Int) ≤ B) :
    Code.wp Try.prog code (bodyPost Try.prog Try.f41 (WalkSays (ctxOf np g grp ls pr sd sq) (frOf (ctxOf np g grp ls pr sd sq)) B w)) ⟨((.pointer (some ⟨C, 0, none⟩) : Value) :: (.slice ag g cg : Value) :: (.int .i64 B : Value) :: z3 :: z4 :: z5 :: z6 :: z7 :: z8 :: (.pointer (some ⟨R, 0, none⟩) : Value) :: (.slice (some ⟨w.heap.size, 0, none⟩) np np : Value) :: z11 :: z12 :: z13 :: z14 :: z15 :: (.slice (some ⟨H, 0, none⟩) g g : Value) :: (.slice (some ⟨Rb, 0, none⟩) g g : Value) :: z18 :: z19 :: z20 :: z21 :: z22 :: z23 :: z24 :: z25 :: z26 :: z27 :: z28 :: z29 :: z30 :: z31 :: z32 :: z33 :: z34 :: z35 :: z36 :: z37 :: z38 :: z39 :: z40 :: z41 :: z42 :: z43 :: z44 :: z45 :: z46 :: z47 :: z48 :: z49 :: z50 :: z51 :: z52 :: z53 :: z54 :: z55 :: z56 :: z57 :: z58 :: z59 :: z60 :: z61 :: z62 :: z63 :: z64 :: z65 :: z66 :: z67 :: z68 :: z69 :: z70 :: z71 :: z72 :: z73 :: z74 :: z75 :: z76 :: z77 :: z78 :: z79 :: z80 :: z81 :: z82 :: z83 :: z84 :: z85 :: z86 :: z87 :: z88 :: z89 :: z90 :: z91 :: z92 :: z93 :: z94 :: z95 :: z96 :: z97 :: z98 :: z99 :: z100 :: z101 :: z102 :: z103 :: z104 :: z105 :: z106 :: z107 :: z108 :: z109 :: z110 :: z111 :: z112 :: z113 :: z114 :: z115 :: z116 :: z117 :: z118 :: z119 :: z120 :: z121 :: z122 :: z123 :: z124 :: z125 :: z126 :: z127 :: z128 :: z129 :: z130 :: z131 :: z132 :: z133 :: z134 :: z135 :: z136 :: z137 :: z138 :: z139 :: z140 :: z141 :: z142 :: z143 :: z144 :: z145 :: z146 :: z147 :: z148 :: z149 :: z150 :: z151 :: z152 :: z153 :: z154 :: z155 :: z156 :: z157 :: z158 :: z159 :: z160 :: z161 :: z162 :: z163 :: z164 :: z165 :: z166 :: z167 :: z168 :: z169 :: z170 :: z171 :: z172 :: z173 :: z174 :: z175 :: z176 :: z177 :: z178 :: z179 :: z180 :: z181 :: z182 :: z183 :: z184 :: z185 :: z186 :: z187 :: z188 :: z189 :: z190 :: z191 :: z192 :: z193 :: z194 :: z195 :: z196 :: z197 :: z198 :: z199 :: z200 :: z201 :: z202 :: z203 :: z204 :: z205 :: z206 :: z207 :: z208 :: z209 :: z210 :: z211 :: z212 :: z213 :: z214 :: z215 :: z216 :: z217 :: z218 :: z219 :: z220 :: z221 :: z222 :: z223 :: z224 :: z225 :: z226 :: z227 :: z228 :: z229 :: z230 :: z231 :: z232 :: z233 :: z234 :: z235 :: z236 :: z237 :: z238 :: z239 :: z240 :: z241 :: z242 :: z243 :: z244 :: z245 :: z246 :: z247 :: z248 :: z249 :: z250 :: z251 :: z252 :: z253 :: z254 :: z255 :: z256 :: z257 :: z258 :: z259 :: z260 :: z261 :: z262 :: z263 :: z264 :: z265 :: z266 :: z267 :: z268 :: z269 :: z270 :: z271 :: z272 :: z273 :: z274 :: z275 :: z276 :: z277 :: z278 :: z279 :: z280 :: z281 :: z282 :: z283 :: z284 :: z285 :: z286 :: z287 :: z288 :: z289 :: z290 :: z291 :: z292 :: z293 :: z294 :: z295 :: z296 :: z297 :: z298 :: z299 :: z300 :: z301 :: z302 :: z303 :: z304 :: z305 :: z306 :: z307 :: z308 :: z309 :: z310 :: z311 :: z312 :: z313 :: z314 :: z315 :: z316 :: z317 :: z318 :: z319 :: z320 :: z321 :: z322 :: z323 :: z324 :: z325 :: z326 :: z327 :: z328 :: z329 :: z330 :: z331 :: z332 :: z333 :: z334 :: z335 :: z336 :: z337 :: z338 :: z339 :: z340 :: z341 :: z342 :: z343 :: z344 :: z345 :: z346 :: []).toArray, []⟩ wc := by
  obtain ⟨b2, off2, hix2, hcell2⟩ := ints_open h2
  obtain ⟨b3, off3, hix3, hcell3⟩ := ints_open h3
  obtain ⟨b4, off4, hix4, hcell4⟩ := ints_open h4
  obtain ⟨b5, off5, hix5, hcell5⟩ := ints_open h5
  have HSh : Hid (Shape np n ls pr sd) := hSh
  have hpl := hSh.plen
  have hsl := hSh.senders.len
  have hll := hSh.lanes.len
  rw [hpl] at hix3 hcell3
  rw [hsl] at hix4 hcell4
  rw [hll] at hix2 hcell2
  rw [hgg] at hix5 hcell5
  rw [hpl, hsl, hll] at hrun
  have HC2 : Hid (∀ j, j < np + 1 → w.cell? ⟨b2, off2 + j, none⟩ = some (.int .i64 (ls.getD j 0))) := hcell2
  have HC3 : Hid (∀ j, j < n → w.cell? ⟨b3, off3 + j, none⟩ = some (.int .i64 (pr.getD j 0))) := hcell3
  have HC4 : Hid (∀ j, j < n → w.cell? ⟨b4, off4 + j, none⟩ = some (.int .i64 (sd.getD j 0))) := hcell4
  have HC5 : Hid (∀ j, j < g → w.cell? ⟨b5, off5 + j, none⟩ = some (.int .i64 (grp.getD j 0))) := hcell5
  have HX2 : Hid (∀ (k : Nat) (w' : World), k < np + 1 → (Instr.indexAt 23 (.slice a2 (np + 1) c2) (.int .i64 k)).run Try.prog w' = .ok (.pointer (some ⟨b2, off2 + k, none⟩)) w') := fun k w' h => hix2 c2 k w' h
  have HX3 : Hid (∀ (k : Nat) (w' : World), k < n → (Instr.indexAt 23 (.slice a3 n c3) (.int .i64 k)).run Try.prog w' = .ok (.pointer (some ⟨b3, off3 + k, none⟩)) w') := fun k w' h => hix3 c3 k w' h
  have HX4 : Hid (∀ (k : Nat) (w' : World), k < n → (Instr.indexAt 23 (.slice a4 n c4) (.int .i64 k)).run Try.prog w' = .ok (.pointer (some ⟨b4, off4 + k, none⟩)) w') := fun k w' h => hix4 c4 k w' h
  have HX5 : Hid (∀ (k : Nat) (w' : World), k < g → (Instr.indexAt 23 (.slice ag g cg) (.int .i64 k)).run Try.prog w' = .ok (.pointer (some ⟨b5, off5 + k, none⟩)) w') := fun k w' h => hix5 cg k w' h
  have HXL : Hid (∀ (k : Nat) (w' : World), k < np → (Instr.indexAt 23 (.slice (some ⟨w.heap.size, 0, none⟩) np np) (.int .i64 k)).run Try.prog w' = .ok (.pointer (some ⟨w.heap.size, k, none⟩)) w') :=
    fun k w' hk => by simpa using indexAt_one Try.underlying23 Try.info3 w.heap.size 0 _ np k hk w'
  have HGR : Hid (∀ j, j < g → InR np (grp.getD j 0)) := hgr
  have HRun : Hid (RunAt w R (.slice a0 np c0) (.slice a2 (np + 1) c2) (.slice a3 n c3) (.slice a4 n c4) E sq) := hrun
  have HCC : Hid (w.cell? ⟨C, 0, none⟩ = some (.pointer (some ⟨R, 0, none⟩)) ∧ w.cell? ⟨C, 1, none⟩ = some (.slice (some ⟨Ge, 0, none⟩) np np)) := ⟨hC0, hC1⟩
  have HEV : Hid (IArr w Ge (evTo ls np np)) := hev
  have HRM : Hid (0 < g → ∀ k, Runs (ctxOf np g grp ls pr sd sq) B k → (st (ctxOf np g grp ls pr sd sq) k).steps ≤ M) := hRM
  have HQ : Hid (sq.length = n) := hql
  clear hcell2 hcell3 hcell4 hcell5 hix2 hix3 hix4 hix5 h2 h3 h4 h5 hSh hpl hsl hll hgr hrun hev hRM hgg hql
  obtain ⟨c, hc⟩ : ∃ c, c = ctxOf np g grp ls pr sd sq := ⟨_, rfl⟩
  have HCX : Hid (c = ctxOf np g grp ls pr sd sq) := hc
  rw [← hc] at HRM ⊢
  clear hc
  have HGc : Hid (c.g = g) := (by unfold Hid; rw [HCX.out]; rfl)
  have HLc : Hid (c.loc = locN grp np g) := (by unfold Hid; rw [HCX.out]; rfl)
  have HLl : Hid ((locN grp np g).length = np) := locN_len grp np g
  obtain ⟨A, hA⟩ : ∃ A, A = w.heap.size := ⟨_, rfl⟩
  rw [← hA] at HXL m1 m4 m5
  rw [hA] at m5
  have m5 : w.heap.size ≤ A ∧ w.heap.size ≤ H ∧ w.heap.size ≤ Rb := ⟨by omega, m5.2.1, m5.2.2⟩
  generalize locN grp np g = loc at m1 HLc HLl
  have HW0 : Hid (WM w (wc.alloc (.cells #[.int .i64 (-1), .int .i64 (-1), .int .i64 (-1), .int .i64 0, .int .i64 0] 83)) A H Rb wc.heap.size 1 loc (List.replicate g 0) (List.replicate g 0) [root]) :=
    ⟨m1.alloc _, m2.alloc _, m3.alloc _, prow_root wc, by have := m1.lt; have := m2.lt; have := m3.lt; omega, by have := m6.size; omega, m6.alloc m6.size _⟩
  have HXH : Hid (∀ (k : Nat) (w' : World), k < g → (Instr.indexAt 23 (.slice (some ⟨H, 0, none⟩) g g) (.int .i64 k)).run Try.prog w' = .ok (.pointer (some ⟨H, k, none⟩)) w') :=
    fun k w' hk => by simpa using indexAt_one Try.underlying23 Try.info3 H 0 _ g k hk w'
  have HXR : Hid (∀ (k : Nat) (w' : World), k < g → (Instr.indexAt 23 (.slice (some ⟨Rb, 0, none⟩) g g) (.int .i64 k)).run Try.prog w' = .ok (.pointer (some ⟨Rb, k, none⟩)) w') :=
    fun k w' hk => by simpa using indexAt_one Try.underlying23 Try.info3 Rb 0 _ g k hk w'
  clear m1 m2 m3 m4 m5 m6 hC0 hC1
  have HOk : Hid (c.Ok) := (by unfold Hid; rw [HCX.out]; exact ctx_ok hjp)
  have HLE2 : Hid ((pf (frOf c) 0 g : Int) ≤ B) := (by unfold Hid; rw [HCX.out]; exact hLE)
  clear hLE
  have HEvs : Hid (∀ j, j < g → 0 ≤ c.evs j) := fun j hj => (by rw [HCX.out]; exact ctx_evs HSh.out.lanes HGR.out j hj)
  have HEvs2 : Hid (∀ j, j < g → c.evs j ≤ 5000) := fun j hj => (by rw [HCX.out]; have := ctx_evs2 HSh.out.lanes HGR.out j hj (pr := pr) (sd := sd) (sq := sq); omega)
  subst hcode
  conv => arg 2; whnf
  go_wp2
  go_loopw [18, 19, 20] (fun v18 v19 v20 wr => ∃ k gp cap, v18 = .slice (some ⟨gp, 0, none⟩) (st c k).path.length cap ∧ v19 = .int .i64 ((st c k).count : Nat) ∧ v20 = .int .i64 ((st c k).steps : Nat) ∧ WM w wr A H Rb gp cap loc (st c k).held (st c k).recvs (st c k).path ∧ Runs c B k) (fun v18 _ v20 _ => 2 * (M + 2 - (intOf v20).toNat) + sliceLen v18)
  case atStart =>
    refine ⟨0, _, _, rfl, rfl, rfl, ?_, fun k' hk => by omega⟩
    show WM w _ A H Rb _ _ loc (List.replicate c.g 0) (List.replicate c.g 0) [root]
    rw [HGc.out]
    exact HW0.out
  case round =>
    clear HW0
    obtain ⟨k, gp, cap, rfl, rfl, rfl, hW, hR⟩ := hrel
    have hI := inv_st HOk.out k
    have hI2 := inv2_st HOk.out (fun j hj => HEvs.out j (by rw [HGc.out] at hj; exact hj)) k
    have HRk : Hid (Runs c B k) := hR
    have hSM := HRM.out hjp k hR
    have HNext : Hid (st c (k + 1) = nxt c (st c k)) := rfl
    have HMon : Hid (looks c (st c k) → ((st c k).steps : Int) + 1 ≤ B → Runs c B (k + 1)) := runs_on HRk.out
    have HMon2 : Hid (¬ looks c (st c k) → (st c k).path ≠ [] → Runs c B (k + 1)) := runs_on2 HRk.out
    generalize hst : st c k = s at *
    have HST : Hid (st c k = s) := hst
    clear hst hR
    obtain ⟨path, held, recvs, count, steps⟩ := s
    simp only at hW hSM
    cases path with
    | nil =>
      as_aux_lemma =>
        have hIo := hI.one
        go_wp2
        go_ret3
        refine ⟨hW.bel, (count : Nat), (steps : Nat), true, rfl, .inr (.inr ⟨by rw [HGc.out]; exact hjp, by rw [HGc.out]; exact HLE2.out, k, .inl ⟨⟨HRk.out, by rw [HST.out]⟩, by rw [HST.out], by rw [HST.out], rfl⟩⟩)⟩
    | cons e rest =>
      have he := hI.okp e (by simp)
      rw [HGc.out] at he
      obtain ⟨N, hN⟩ : ∃ N, N = rest.length := ⟨_, rfl⟩
      have HN : Hid (N = rest.length) := hN
      have t0 : wr.cell? ⟨gp, N * 5, none⟩ = some (.int .i64 e.proc) := by have := hW.pa.top 0 (by omega); rw [Nat.add_zero, ← hN] at this; exact this
      have t2 : wr.cell? ⟨gp, N * 5 + 2, none⟩ = some (.int .i64 e.receives) := by have := hW.pa.top 2 (by omega); rw [← hN] at this; exact this
      have t3 : wr.cell? ⟨gp, N * 5 + 3, none⟩ = some (.int .i64 e.receivers) := by have := hW.pa.top 3 (by omega); rw [← hN] at this; exact this
      have t4 : wr.cell? ⟨gp, N * 5 + 4, none⟩ = some (.int .i64 e.next) := by have := hW.pa.top 4 (by omega); rw [← hN] at this; exact this
      have hroom := hW.pa.room
      have hixP := fun w' => indexAt_path gp (N + 1) cap N (by omega) w'
      have HWM : Hid (WM w wr A H Rb gp cap loc held recvs (e :: rest)) := hW
      have HI : Hid (Inv c ⟨e :: rest, held, recvs, count, steps⟩) := hI
      have HI2 : Hid (Inv2 c ⟨e :: rest, held, recvs, count, steps⟩) := hI2
      have hcs := hI2.cs
      have hpl := hI2.pl
      simp only [List.length_cons, ← hN] at hroom hpl hcs ⊢
      have HEo : Hid (OkE g e) := he
      clear hW hI hN hI2
      by_cases hnx : e.next = g
      · have hnl : ¬ looks c ⟨e :: rest, held, recvs, count, steps⟩ := by
          rintro ⟨e', r', hp, hn⟩
          simp only at hp
          cases hp
          exact hn (by rw [HGc.out]; exact hnx)
        have HR1 : Hid (Runs c B (k + 1)) := HMon2.out hnl (by simp)
        have HN1 : Hid (st c (k + 1) = { path := rest, held := popHeld held e, recvs := popRecvs recvs e, count := count, steps := steps }) := (by
          unfold Hid
          rw [HNext.out]
          unfold nxt
          simp only [HGc.out, hnx, if_true])
        rw [hnx] at t4
        clear hnl hnx he HMon HMon2 HNext
        as_aux_lemma =>
         by_cases hpr : e.proc < 0
         · have HN2 : Hid (st c (k + 1) = { path := rest, held := held, recvs := recvs, count := count, steps := steps }) := (by
             unfold Hid
             rw [HN1.out]
             unfold popHeld popRecvs
             rw [if_neg (by omega), if_neg (by omega)])
           as_aux_lemma =>
             go_wp2
             go_roundw
             case rel => exact ⟨k + 1, gp, cap, by rw [HN2.out, HN.out], by rw [HN2.out], by rw [HN2.out], by rw [HN2.out]; exact HWM.out.pop, HR1.out⟩
             case measure => simp [intOf, sliceLen] <;> omega
         · obtain ⟨P, hP⟩ : ∃ P : Nat, e.proc = P := ⟨e.proc.toNat, by omega⟩
           have hPg : P < g := by have := HEo.out.p1; omega
           have hHl : held.length = g := HI.out.hlen.trans HGc.out
           have hRl : recvs.length = g := HI.out.rlen.trans HGc.out
           have gH := HWM.out.he.cell P (by omega)
           have fH := HWM.out.he.frozen P
           have hxH := fun w' => HXH.out P w' hPg
           have hxR := fun w' => HXR.out P w' hPg
           have hhb := HI2.out.hb P (by rw [HGc.out]; exact hPg)
           have hhb2 := HEvs2.out P hPg
           have heb := HI2.out.eb e (by simp)
           simp only [Wi, List.length_cons, ← HN.out] at heb
           simp only at hhb
           obtain ⟨hv, hhv⟩ : ∃ hv, hv = held.getD P 0 := ⟨_, rfl⟩
           rw [← hhv] at gH hhb
           have HW1 : Hid (WM w (wr.setCell ⟨H, P, none⟩ (.int .i64 (hv - 1))) A H Rb gp cap loc (held.set P (hv - 1)) recvs (e :: rest)) := HWM.out.setH P (hv - 1)
           have HW2 : Hid (WM w ((wr.setCell ⟨H, P, none⟩ (.int .i64 (hv - 1))).setCell ⟨Rb, P, none⟩ (.int .i64 e.receivers)) A H Rb gp cap loc (held.set P (hv - 1)) (recvs.set P e.receivers) (e :: rest)) := HW1.out.setR P e.receivers
           have t3' : (wr.setCell ⟨H, P, none⟩ (.int .i64 (hv - 1))).cell? ⟨gp, N * 5 + 3, none⟩ = some (.int .i64 e.receivers) := by have := HW1.out.pa.top 3 (by omega); rw [← HN.out] at this; exact this
           have gR := HW1.out.re.cell P (by omega)
           have fR := HW1.out.re.frozen P
           have t2' : ((wr.setCell ⟨H, P, none⟩ (.int .i64 (hv - 1))).setCell ⟨Rb, P, none⟩ (.int .i64 e.receivers)).cell? ⟨gp, N * 5 + 2, none⟩ = some (.int .i64 e.receives) := by have := HW2.out.pa.top 2 (by omega); rw [← HN.out] at this; exact this
           have HPH : Hid (popHeld held e = held.set P (hv - 1)) := (by unfold Hid popHeld; rw [if_pos (by omega), hP, Int.toNat_natCast, hhv])
           generalize recvs.getD P 0 = rold at gR
           rw [hP] at t0
           by_cases hrc : e.receives < 0
           · have HPR : Hid (popRecvs recvs e = recvs.set P e.receivers) := (by unfold Hid popRecvs; rw [if_pos (by omega), if_neg (by omega), hP, Int.toNat_natCast])
             have HN2 : Hid (st c (k + 1) = { path := rest, held := held.set P (hv - 1), recvs := recvs.set P e.receivers, count := count, steps := steps }) := (by unfold Hid; rw [HN1.out, HPH.out, HPR.out])
             clear hhv hpr hP HPH HPR HN1 t2 t3 hHl hRl
             as_aux_lemma =>
               go_wp2
               go_roundw
               case rel => exact ⟨k + 1, gp, cap, by rw [HN2.out, HN.out], by rw [HN2.out], by rw [HN2.out], by rw [HN2.out]; exact HW2.out.pop, HR1.out⟩
               case measure => simp [intOf, sliceLen] <;> omega
           · obtain ⟨Q, hQ⟩ : ∃ Q : Nat, e.receives = Q := ⟨e.receives.toNat, by omega⟩
             have hQg : Q < g := by have := HEo.out.r1; omega
             have hxQ := fun w' => HXR.out Q w' hQg
             have gQ := HW2.out.re.cell Q (by rw [List.length_set]; omega)
             have fQ := HW2.out.re.frozen Q
             have HPR : Hid (popRecvs recvs e = (recvs.set P e.receivers).set Q ((recvs.set P e.receivers).getD Q 0 - 1)) := (by unfold Hid popRecvs; rw [if_pos (by omega), if_pos (by omega), hP, hQ, Int.toNat_natCast, Int.toNat_natCast])
             have hrb : Wi (2 * count - (N + 1)) ((recvs.set P e.receivers).getD Q 0) := by
               have h1 := HI2.out.rb Q
               have h2 := HI2.out.eb e (by simp)
               simp only [List.length_cons, ← HN.out] at h1 h2
               rcases getD_set_or recvs P Q e.receivers with e1 | e1
               · rw [e1]; exact h2
               · rw [e1]; exact h1
             unfold Wi at hrb
             have HW3 := HW2.out.setR Q ((recvs.set P e.receivers).getD Q 0 - 1)
             have HN2 : Hid (st c (k + 1) = { path := rest, held := held.set P (hv - 1), recvs := (recvs.set P e.receivers).set Q ((recvs.set P e.receivers).getD Q 0 - 1), count := count, steps := steps }) := (by unfold Hid; rw [HN1.out, HPH.out, HPR.out])
             rw [hQ] at t2'
             generalize (recvs.set P e.receivers).getD Q 0 = rq at *
             have HW4 : Hid (WM w (((wr.setCell ⟨H, P, none⟩ (.int .i64 (hv - 1))).setCell ⟨Rb, P, none⟩ (.int .i64 e.receivers)).setCell ⟨Rb, Q, none⟩ (.int .i64 (rq - 1))) A H Rb gp cap loc (held.set P (hv - 1)) ((recvs.set P e.receivers).set Q (rq - 1)) (e :: rest)) := HW3
             clear hhv hpr hP HPH HPR HN1 t2 t3 hHl hRl HW3 hQ hrc
             as_aux_lemma =>
               go_wp2
               go_roundw
               case rel => exact ⟨k + 1, gp, cap, by rw [HN2.out, HN.out], by rw [HN2.out], by rw [HN2.out], by rw [HN2.out]; exact HW4.out.pop, HR1.out⟩
               case measure => simp [intOf, sliceLen] <;> omega
      · obtain ⟨J, hJ⟩ : ∃ J : Nat, e.next = J := ⟨e.next.toNat, by have := he.n0; omega⟩
        have hJg : J < g := by have := he.n1; omega
        have hlk : looks c ⟨e :: rest, held, recvs, count, steps⟩ := ⟨e, rest, rfl, by rw [HGc.out]; exact hnx⟩
        have HLK : Hid (looks c ⟨e :: rest, held, recvs, count, steps⟩) := hlk
        have HW1 : Hid (WM w (wr.setCell ⟨gp, N * 5 + 4, none⟩ (.int .i64 ((J : Int) + 1))) A H Rb gp cap loc held recvs (e.bump :: rest)) := (by
          unfold Hid
          have := HWM.out.bump
          rw [hJ, ← HN.out] at this
          exact this)
        have f4 := HWM.out.pa.frozen (N * 5 + 4)
        have hJb : ((J : Int) == (g : Int)) = false := by simp; omega
        rw [hJ] at t4
        have HJ : Hid (e.next = J) := hJ
        clear hlk hnx he hJ HMon2 t0 t2 t3
        go_upto_region 32 with fail
        generalize wr.setCell ⟨gp, N * 5 + 4, none⟩ (.int .i64 ((J : Int) + 1)) = W1 at *
        clear t4 f4 hixP
        by_cases hB1 : B < (steps : Int) + 1
        · as_aux_lemma =>
            go_wp2
            go_ret3
            refine ⟨HW1.out.bel, 0, (steps : Int) + 1, false, ?_, .inr (.inr ⟨by rw [HGc.out]; exact hjp, by rw [HGc.out]; exact HLE2.out, k, .inr ⟨⟨HRk.out, by rw [HST.out]; exact HLK.out, by rw [HST.out]; exact hB1⟩, rfl, by rw [HST.out], rfl⟩⟩)⟩
            rfl
        · have HR1 : Hid (Runs c B (k + 1)) := HMon.out HLK.out (by show (steps : Int) + 1 ≤ B; omega)
          have hgj := HGR.out J hJg
          obtain ⟨p, hp⟩ := getD_nat' hgj.1
          have hpn : p < np := by have := hgj.2; omega
          have hHl : held.length = g := HI.out.hlen.trans HGc.out
          have hRl : recvs.length = g := HI.out.rlen.trans HGc.out
          have g5 : W1.cell? ⟨b5, off5 + J, none⟩ = some (.int .i64 p) := by rw [← hp]; exact cell_later HW1.out.bel (HC5.out J hJg)
          have hx5 := fun w' => HX5.out J w' hJg
          have gH := HW1.out.he.cell J (by omega)
          have hxH := fun w' => HXH.out J w' hJg
          have gC := cell_later HW1.out.bel HCC.out.2
          have ecp : c.p J = p := by rw [HCX.out]; show (grp.getD J 0).toNat = p; rw [hp, Int.toNat_natCast]
          have eev : c.evs J = (evTo ls np np).getD p 0 := by unfold Ctx.evs; rw [ecp, HCX.out]; rfl
          have gE : W1.cell? ⟨Ge, p, none⟩ = some (.int .i64 (c.evs J)) := by rw [eev]; exact cell_later HW1.out.bel (HEV.out.cell p (by rw [evTo_len]; exact hpn))
          have hxE : ∀ w', (Instr.indexAt 23 (.slice (some ⟨Ge, 0, none⟩) np np) (.int .i64 p)).run Try.prog w' = .ok (.pointer (some ⟨Ge, p, none⟩)) w' := fun w' => by simpa using indexAt_one Try.underlying23 Try.info3 Ge 0 _ np p hpn w'
          have hhb := HI2.out.hb J (by rw [HGc.out]; exact hJg)
          simp only at hhb
          have hhb2 := HEvs2.out J hJg
          have HAd : Hid (c.adds held e J = (!(held.getD J 0 == c.evs J) && !(c.blocked held J) && !(decide ((J : Int) < e.proc) && !(e.proc == c.receives held J)))) := rfl
          have HSkip : Hid (c.adds held e J = false → st c (k + 1) = { path := e.bump :: rest, held := held, recvs := recvs, count := count, steps := steps + 1 }) := fun ha => (by
            rw [HNext.out]
            unfold nxt
            simp only [HGc.out, HJ.out, Int.toNat_natCast, ha]
            rw [if_neg (by omega)]
            rfl)
          have hCount : count ≤ M + 1 := by omega
          have HEv1 : Hid (∀ q, q ≤ np → 0 ≤ ls.getD q 0) := fun q hq => HSh.out.lanes.lo q hq
          by_cases h1 : held.getD J 0 = c.evs J
          · have HN2 : Hid (st c (k + 1) = { path := e.bump :: rest, held := held, recvs := recvs, count := count, steps := steps + 1 }) := HSkip.out (by rw [HAd.out, h1]; simp)
            rw [h1] at gH
            clear h1 HSkip HAd eev hp
            generalize c.evs J = ev at *
            as_aux_lemma =>
              go_wp2
              go_quiet (fail)
              go_wp2
              go_roundw
              case rel => exact ⟨k + 1, gp, cap, by rw [HN2.out, HN.out]; rfl, by rw [HN2.out], by rw [HN2.out]; go_num, by rw [HN2.out]; exact HW1.out.drewN _, HR1.out⟩
              case measure => simp [intOf, sliceLen]; omega
          · obtain ⟨hv, hhv⟩ : ∃ hv : Nat, held.getD J 0 = hv := ⟨(held.getD J 0).toNat, by omega⟩
            have r1 := HSh.out.lanes.lo p (by omega)
            have r3 := HSh.out.lanes.hi (p + 1) (by omega)
            obtain ⟨x, hx⟩ := Int.eq_ofNat_of_zero_le r1
            have eev2 := eev
            rw [evTo_at ls np p hpn, hx] at eev2
            have hIn : x + hv < n := by omega
            have l1 : W1.cell? ⟨b2, off2 + p, none⟩ = some (.int .i64 x) := by rw [← show ls.getD p 0 = (x : Int) from hx]; exact cell_later HW1.out.bel (HC2.out p (by omega))
            have hx2 := fun w' => HX2.out p w' (by omega)
            have g4 : W1.cell? ⟨b4, off4 + (x + hv), none⟩ = some (.int .i64 (sd.getD (x + hv) 0)) := cell_later HW1.out.bel (HC4.out _ hIn)
            have hx4 : ∀ w', (Instr.indexAt 23 (.slice a4 n c4) (.int .i64 ((x : Int) + (hv : Int)))).run Try.prog w' = .ok (.pointer (some ⟨b4, off4 + (x + hv), none⟩)) w' := fun w' => by simpa using HX4.out (x + hv) w' hIn
            have hwx : IntKind.i64.wrap ((x : Int) + (hv : Int)) = (x : Int) + (hv : Int) := by rw [IntKind.wrap_i64]; omega
            have kR := HRun.out.below HW1.out.bel
            have kc1 := kR.c1
            have kc2 := kR.c2
            have kc3 := kR.c3
            have kc4 := kR.c4
            rw [HQ.out] at kc1
            have eat : c.at held J = x + hv := by
              unfold Ctx.at
              rw [ecp, hhv, HCX.out]
              show (ls.getD p 0 + (hv : Int)).toNat = _
              rw [hx]
              omega
            have ebl : c.blocked held J = (c.cross p (x + hv) && decide (held.getD (c.from (x + hv)).toNat 0 < c.sent (x + hv))) := by unfold Ctx.blocked; rw [eat, ecp]
            have erc : c.receives held J = if c.cross p (x + hv) = true ∧ c.sent (x + hv) = held.getD (c.from (x + hv)).toNat 0 then c.from (x + hv) else -1 := by unfold Ctx.receives; rw [eat, ecp]
            have HBL : Hid (c.blocked held J = (c.cross p (x + hv) && decide (held.getD (c.from (x + hv)).toNat 0 < c.sent (x + hv)))) := ebl
            have HRC : Hid (c.receives held J = if c.cross p (x + hv) = true ∧ c.sent (x + hv) = held.getD (c.from (x + hv)).toNat 0 then c.from (x + hv) else -1) := erc
            have hne : ((hv : Int) == c.evs J) = false := by rw [← hhv]; simpa using h1
            have HNE : Hid ((held.getD J 0 == c.evs J) = false) := (by unfold Hid; simpa using h1)
            have HHV : Hid (held.getD J 0 = hv) := hhv
            have hrcb : Hid (-1 ≤ c.receives held J ∧ c.receives held J < g) := (by unfold Hid; have := receives_bd HOk.out held J; rw [HGc.out] at this; exact this)
            have hkev := kR.ev
            have HKE : Hid (EvAt W1 E sq sq.length) := hkev
            rw [hhv] at gH
            clear ebl erc eat h1 hhv eev eev2 hx r1 r3 kR hkev hp
            generalize c.evs J = ev at *
            go_upto_region 36 with fail
            go_quiet (fail)
            go_upto_region 37 with fail
            generalize nq = d0
            go_cut [25] (fun v25 wx => v25 = .int .i64 (-1) ∧ wx = W1.drewN d0)
            case first =>
              go_wp2
              go_meet
              exact ⟨rfl, rfl⟩
            case rest =>
             obtain ⟨rfl, rfl⟩ := hcut
             go_step
             go_step
             go_cut [25] (fun v25 wx => v25 = .int .i64 (c.receives held J) ∧ c.blocked held J = false ∧ ∃ d, wx = W1.drewN d)
             case first =>
              as_aux_lemma =>
               by_cases hs : sd.getD (x + hv) 0 < 0
               · have HCr : Hid (c.cross p (x + hv) = false) := cross_neg (by rw [HCX.out]; exact hs)
                 have HV : Hid (c.receives held J = -1 ∧ c.blocked held J = false) := (by
                   refine ⟨?_, ?_⟩
                   · rw [HRC.out, HCr.out, if_neg (by simp)]
                   · rw [HBL.out, HCr.out]; rfl)
                 generalize sd.getD (x + hv) 0 = sv at *
                 have hd : decide (sv < 0) = true := by simpa using hs
                 as_aux_lemma =>
                   go_wp2
                   go_quiet (fail)
                   go_wp2
                   go_meet
                   exact ⟨by rw [HV.out.1], HV.out.2, _, rfl⟩
               · obtain ⟨S, hS⟩ := getD_nat' (l := sd) (j := x + hv) (by omega)
                 have hSn : S < n := by have := HSh.out.senders.lt (x + hv) hIn; omega
                 have g3 : W1.cell? ⟨b3, off3 + S, none⟩ = some (.int .i64 (pr.getD S 0)) := cell_later HW1.out.bel (HC3.out _ hSn)
                 have hx3 := fun w' => HX3.out S w' hSn
                 have hs0 : 0 ≤ c.sd.getD (x + hv) 0 := by rw [HCX.out]; show 0 ≤ sd.getD (x + hv) 0; omega
                 have hpS : c.pr.getD (c.sd.getD (x + hv) 0).toNat 0 = pr.getD S 0 := by rw [HCX.out]; show pr.getD (sd.getD (x + hv) 0).toNat 0 = _; rw [hS, Int.toNat_natCast]
                 have hsS : c.sent (x + hv) = sq.getD S 0 := by unfold Ctx.sent; rw [HCX.out]; show sq.getD (sd.getD (x + hv) 0).toNat 0 = _; rw [hS, Int.toNat_natCast]
                 have hfS : c.from (x + hv) = loc.getD (pr.getD S 0).toNat 0 := by unfold Ctx.from; rw [HLc.out, hpS]
                 rw [hS] at g4
                 by_cases hp2 : pr.getD S 0 = p
                 · have HCr : Hid (c.cross p (x + hv) = false) := cross_same (hpS.trans hp2)
                   have HV : Hid (c.receives held J = -1 ∧ c.blocked held J = false) := (by
                     refine ⟨?_, ?_⟩
                     · rw [HRC.out, HCr.out, if_neg (by simp)]
                     · rw [HBL.out, HCr.out]; rfl)
                   rw [hp2] at g3
                   clear hs hs0 hpS hp2 hS hsS hfS
                   as_aux_lemma =>
                     go_wp2
                     go_quiet (fail)
                     go_wp2
                     go_meet
                     exact ⟨by rw [HV.out.1], HV.out.2, _, rfl⟩
                 · have hCr : c.cross p (x + hv) = true := cross_yes hs0 (by rw [hpS]; exact hp2)
                   have hPS := HSh.out.inR S hSn
                   obtain ⟨V, hV⟩ := getD_nat' hPS.1
                   have hVn : V < np := by have := hPS.2; omega
                   have gL : W1.cell? ⟨w.heap.size, V, none⟩ = some (.int .i64 (loc.getD V 0)) := by rw [← hA]; exact HW1.out.lo.cell V (by rw [HLl.out]; exact hVn)
                   have hxV : ∀ w', (Instr.indexAt 23 (.slice (some ⟨w.heap.size, 0, none⟩) np np) (.int .i64 V)).run Try.prog w' = .ok (.pointer (some ⟨w.heap.size, V, none⟩)) w' := fun w' => by rw [← hA]; exact HXL.out V w' hVn
                   rw [hV, Int.toNat_natCast] at hfS
                   have hfb0 := HOk.out.loc0 V
                   have hfb1 := HOk.out.loc1 V
                   rw [HLc.out] at hfb0 hfb1
                   rw [HGc.out] at hfb1
                   obtain ⟨Q, hQ⟩ := getD_nat' hfb0
                   have hQg : Q < g := by omega
                   rw [hQ] at gL hfS
                   have gQ := HW1.out.he.cell Q (by omega)
                   have hxQ := fun w' => HXH.out Q w' hQg
                   have gS := HKE.out.cell S (by rw [HQ.out]; exact hSn)
                   have hxS := fun w' => indexAt_ev E n n S hSn w'
                   have hvp : ((V : Int) != (p : Int)) = true := by rw [← hV]; simpa using hp2
                   rw [hV] at g3
                   have HB2 : Hid (c.blocked held J = decide (held.getD Q 0 < sq.getD S 0)) := (by unfold Hid; rw [HBL.out, hCr, hfS, hsS, Int.toNat_natCast]; rfl)
                   have HR2 : Hid (c.receives held J = if sq.getD S 0 = held.getD Q 0 then (Q : Int) else -1) := (by
                     unfold Hid
                     rw [HRC.out, hCr, hfS, hsS, Int.toNat_natCast]
                     simp only [true_and])
                   clear hs hs0 hpS hp2 hS hsS hfS hCr hPS hV hfb0 hfb1 hQ
                   generalize sq.getD S 0 = sent at *
                   generalize held.getD Q 0 = hq at *
                   by_cases c1 : hq < sent
                   · have HN2 : Hid (st c (k + 1) = { path := e.bump :: rest, held := held, recvs := recvs, count := count, steps := steps + 1 }) := HSkip.out (by rw [HAd.out, HB2.out, decide_eq_true c1]; simp)
                     as_aux_lemma =>
                       go_wp2
                       go_quiet (fail)
                       go_wp2
                       go_roundw
                       case rel => exact ⟨k + 1, gp, cap, by rw [HN2.out, HN.out]; rfl, by rw [HN2.out], by rw [HN2.out]; go_num, by rw [HN2.out]; exact HW1.out.drewN _, HR1.out⟩
                       case measure => simp [intOf, sliceLen]; omega
                   · by_cases c2 : sent = hq
                     · have HV : Hid (c.receives held J = Q ∧ c.blocked held J = false) := (by
                         refine ⟨?_, ?_⟩
                         · rw [HR2.out, if_pos c2]
                         · rw [HB2.out, decide_eq_false c1])
                       subst c2
                       clear c1 HB2 HR2
                       as_aux_lemma =>
                         go_wp2
                         go_quiet (fail)
                         go_wp2
                         go_meet
                         exact ⟨by rw [HV.out.1], HV.out.2, _, rfl⟩
                     · have HV : Hid (c.receives held J = -1 ∧ c.blocked held J = false) := (by
                         refine ⟨?_, ?_⟩
                         · rw [HR2.out, if_neg c2]
                         · rw [HB2.out, decide_eq_false c1])
                       have hcb : (sent == hq) = false := by simpa using c2
                       clear HB2 HR2
                       as_aux_lemma =>
                         go_wp2
                         go_quiet (fail)
                         go_wp2
                         go_meet
                         exact ⟨by rw [HV.out.1], HV.out.2, _, rfl⟩
             case rest =>
              as_aux_lemma =>
               obtain ⟨rfl, hbl, d, rfl⟩ := hcut
               have HBl : Hid (c.blocked held J = false) := hbl
               obtain ⟨rc, hrc⟩ : ∃ rc, rc = c.receives held J := ⟨_, rfl⟩
               have HRc : Hid (c.receives held J = rc) := hrc.symm
               rw [← hrc] at hrcb ⊢
               have hrc1 := hrcb.out.1
               have hrc2 := hrcb.out.2
               have hWd := HW1.out.drewN d
               generalize W1.drewN d = W2 at *
               have HW2 : Hid (WM w W2 A H Rb gp cap loc held recvs (e.bump :: rest)) := hWd
               have t0 : W2.cell? ⟨gp, N * 5, none⟩ = some (.int .i64 e.proc) := by have := HW2.out.pa.top 0 (by omega); rw [Nat.add_zero, ← HN.out] at this; exact this
               clear hbl hrc hWd HBL HRC hrcb HKE gE hxE gC g4 hx4 kc1 kc2 kc3 kc4 l1 hx2 g5 hx5 gH hwx
               have hep0 := HEo.out.p0
               have hep1 := HEo.out.p1
               by_cases h2 : (J : Int) < e.proc ∧ e.proc ≠ rc
               · have HN2 : Hid (st c (k + 1) = { path := e.bump :: rest, held := held, recvs := recvs, count := count, steps := steps + 1 }) := HSkip.out (by
                   rw [HAd.out, HRc.out, decide_eq_true h2.1, show (e.proc == rc) = false by simpa using h2.2]
                   simp)
                 have h2a := h2.1
                 have h2b : (e.proc != rc) = true := by simpa using h2.2
                 clear h2
                 generalize e.proc = ep at *
                 as_aux_lemma =>
                   go_wp2
                   go_roundw
                   case rel => exact ⟨k + 1, gp, cap, by rw [HN2.out, HN.out]; rfl, by rw [HN2.out], by rw [HN2.out]; go_num, by rw [HN2.out]; exact HW2.out, HR1.out⟩
                   case measure => simp [intOf, sliceLen]; omega
               · have HAdd : Hid (c.adds held e J = true) := (by
                   unfold Hid
                   rw [HAd.out, HNE.out, HBl.out, HRc.out]
                   by_cases h3 : (J : Int) < e.proc
                   · have h4 : e.proc = rc := by
                       by_cases h5 : e.proc = rc
                       · exact h5
                       · exact absurd ⟨h3, h5⟩ h2
                     rw [h4]; simp
                   · rw [decide_eq_false h3]; rfl)
                 obtain ⟨H', hH'⟩ : ∃ H', H' = pushHeld held J := ⟨_, rfl⟩
                 obtain ⟨R', hR'⟩ : ∃ R', R' = pushRecvs recvs J rc := ⟨_, rfl⟩
                 obtain ⟨rJ, hrJ⟩ : ∃ rJ, rJ = recvs.getD J 0 := ⟨_, rfl⟩
                 have hbd := below_lt H' R' J
                 have HNxt : Hid (st c (k + 1) = { path := { proc := J, below := (below H' R' J).1, receives := rc, receivers := rJ, next := max (below H' R' J).1 0 } :: e.bump :: rest, held := H', recvs := R', count := count + 1, steps := steps + 1 + (below H' R' J).2 }) := (by
                   unfold Hid
                   rw [HNext.out]
                   unfold nxt
                   simp only [HGc.out, HJ.out, Int.toNat_natCast, HAdd.out, if_true]
                   rw [if_neg (by omega)]
                   unfold Ctx.child
                   rw [HRc.out, hH', hR', hrJ])
                 have HHp : Hid (H' = pushHeld held J) := hH'
                 have HRp : Hid (R' = pushRecvs recvs J rc) := hR'
                 have HrJ : Hid (rJ = recvs.getD J 0) := hrJ
                 have HHL0 : Hid (held.length = g) := hHl
                 have HRl : Hid (recvs.length = g) := hRl
                 have HRB : Hid (∀ q, Wi (2 * count - (N + 1)) (recvs.getD q 0)) := fun q => (by have := HI2.out.rb q; simp only [List.length_cons, ← HN.out] at this; exact this)
                 have HM1 := HRM.out hjp (k + 1) HR1.out
                 rw [HNxt.out] at HM1
                 have HM1 : Hid (steps + 1 + (below H' R' J).2 ≤ M) := HM1
                 have HHv5 : Hid (hv ≤ 5000) := (by unfold Hid; have h1 := HHV.out; omega)
                 clear HSkip HAd HNE HAdd
                 have h2c : Hid (decide ((J : Int) < e.proc) = false ∨ e.proc = rc) := by
                   by_cases h3 : (J : Int) < e.proc
                   · by_cases h5 : e.proc = rc
                     · exact .inr h5
                     · exact absurd ⟨h3, h5⟩ h2
                   · exact .inl (decide_eq_false h3)
                 clear h2 hH' hR' hrJ hHl hRl hbd
                 go_upto_region 45 with fail
                 go_cut [283] (fun v wx => v = .bool false ∧ wx = W2)
                 case first =>
                   as_aux_lemma =>
                     rcases h2c.out with h3 | h3
                     · have h4 : ¬ (J : Int) < e.proc := of_decide_eq_false h3
                       generalize e.proc = ep at *
                       clear h3
                       go_wp2
                       go_meet
                       exact ⟨rfl, rfl⟩
                     · rw [h3] at t0
                       by_cases h4 : (J : Int) < rc
                       · have h5 : (rc != rc) = false := by simp
                         go_wp2
                         go_meet
                         exact ⟨rfl, rfl⟩
                       · go_wp2
                         go_meet
                         exact ⟨rfl, rfl⟩
                 case rest =>
                   obtain ⟨rfl, rfl⟩ := hcut
                   clear h2c t0
                   go_step
                   refine wp_cond_false rfl ?_
                   refine wp_skip ?_
                   iterate 2 go_step
                   refine push_any _ (by conv => rhs; whnf) _ _ _ _ _ _ _ _ _ _ _ _ _ _ _ _ _ _ _ _ _ _ _ _ _ _ _ _ _ _ _ _ _ _ _ _ _ _ _ _ _ _ _ _ _ _ _ _ _ _ _ _ _ _ _ _ _ _ _ _ _ _ _ _ _ _ _ _ _ _ _ _ _ _ _ _ _ _ _ _ _ _ _ _ _ _ _ _ _ _ _ _ _ _ _ _ _ _ _ _ _ _ _ _ _ _ _ _ _ _ _ _ _ _ _ _ _ _ _ _ _ _ _ _ _ _ _ _ _ _ _ _ _ _ _ _ _ _ _ _ _ _ _ _ _ _ _ _ _ _ _ _ _ _ _ _ _ _ _ _ _ _ _ _ _ _ _ _ _ _ _ _ _ _ _ _ _ _ _ _ _ _ _ _ _ _ _ _ _ _ _ _ _ _ _ _ _ _ _ _ _ _ _ _ _ _ _ _ _ _ _ _ _ _ _ _ _ _ _ _ _ _ _ _ _ _ _ _ _ _ _ _ _ _ _ _ _ _ _ _ _ _ _ _ _ _ _ _ _ _ _ _ _ _ _ _ _ _ _ _ _ _ _ _ _ _ _ _ _ _ _ _ _ _ _ _ _ _ _ _ _ _ _ _ _ _ _ _ _ _ _ _ _ _ _ _ _ _ _ _ _ _ _ _ _ _ _ _ _ _ _ _ _ _ _ _ _ _ _ _ _ _ _ _ _ _ _ _ _ _ _ _ _ _ _ _ _ _ _ _ w _ A H Rb gp cap g J N hv count steps M (below H' R' J).2 loc held recvs H' R' e.bump rest (below H' R' J).1 rc rJ hgl hM hJg HW2.out HN.out HHL0.out HRl.out HHV.out HHv5.out hrc1 hrc2 hpl hcs hSM HRB.out HHp.out HRp.out HrJ.out rfl _ ?_
                   intro g' cap' w' x29 x30 x284 x285 x286 x287 x288 x289 x290 x291 x292 x293 x294 x295 x296 x297 x298 x299 x300 x301 x302 x303 x304 x305 x306 x307 x308 x309 x310 x311 x312 x313 x314 x315 x316 x317 x318 x319 x320 x321 x322 x323 x324 x325 x326 x327 x328 x329 x330 x331 x332 x333 x334 x335 x336 x337 x338 x339 x340 x341 x342 x343 x344 hWn
                   go_wp2
                   go_roundw
                   case rel => exact ⟨k + 1, g', cap', by rw [HNxt.out, HN.out]; rfl, by rw [HNxt.out]; go_num, by rw [HNxt.out]; go_num, by rw [HNxt.out]; exact hWn, HR1.out⟩
                   case measure => have := HM1.out; simp [intOf, sliceLen] <;> omega
end Go.Proofs.Qxb6603214a
