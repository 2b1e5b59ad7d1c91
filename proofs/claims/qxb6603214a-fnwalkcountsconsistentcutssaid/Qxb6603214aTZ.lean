import Derived.Test.Qxb6603214aPu
namespace Go.Proofs.Qxb6603214a
open Go.RowKit Go.Maps WalkP
set_option linter.unusedVariables false

set_option maxHeartbeats 40000000 in
set_option maxRecDepth 1000000 in
theorem tail_zero (code : Code) (hcode : code = (Try.f41.body.bind (fromRegion 18)).getD .skip) (z3 z4 z5 z6 z7 z8 z11 z12 z13 z14 z15 z18 z19 z20 z21 z22 z23 z24 z25 z26 z27 z28 z29 z30 z31 z32 z33 z34 z35 z36 z37 z38 z39 z40 z41 z42 z43 z44 z45 z46 z47 z48 z49 z50 z51 z52 z53 z54 z55 z56 z57 z58 z59 z60 z61 z62 z63 z64 z65 z66 z67 z68 z69 z70 z71 z72 z73 z74 z75 z76 z77 z78 z79 z80 z81 z82 z83 z84 z85 z86 z87 z88 z89 z90 z91 z92 z93 z94 z95 z96 z97 z98 z99 z100 z101 z102 z103 z104 z105 z106 z107 z108 z109 z110 z111 z112 z113 z114 z115 z116 z117 z118 z119 z120 z121 z122 z123 z124 z125 z126 z127 z128 z129 z130 z131 z132 z133 z134 z135 z136 z137 z138 z139 z140 z141 z142 z143 z144 z145 z146 z147 z148 z149 z150 z151 z152 z153 z154 z155 z156 z157 z158 z159 z160 z161 z162 z163 z164 z165 z166 z167 z168 z169 z170 z171 z172 z173 z174 z175 z176 z177 z178 z179 z180 z181 z182 z183 z184 z185 z186 z187 z188 z189 z190 z191 z192 z193 z194 z195 z196 z197 z198 z199 z200 z201 z202 z203 z204 z205 z206 z207 z208 z209 z210 z211 z212 z213 z214 z215 z216 z217 z218 z219 z220 z221 z222 z223 z224 z225 z226 z227 z228 z229 z230 z231 z232 z233 z234 z235 z236 z237 z238 z239 z240 z241 z242 z243 z244 z245 z246 z247 z248 z249 z250 z251 z252 z253 z254 z255 z256 z257 z258 z259 z260 z261 z262 z263 z264 z265 z266 z267 z268 z269 z270 z271 z272 z273 z274 z275 z276 z277 z278 z279 z280 z281 z282 z283 z284 z285 z286 z287 z288 z289 z290 z291 z292 z293 z294 z295 z296 z297 z298 z299 z300 z301 z302 z303 z304 z305 z306 z307 z308 z309 z310 z311 z312 z313 z314 z315 z316 z317 z318 z319 z320 z321 z322 z323 z324 z325 z326 z327 z328 z329 z330 z331 z332 z333 z334 z335 z336 z337 z338 z339 z340 z341 z342 z343 z344 z345 z346 : Value) (R E C Ge np n g c0 c2 c3 c4 cg : Nat) (a0 a2 a3 a4 ag : Option Addr) (ls pr sd sq grp : List Int) (B : Int) (w : World) (hn : n ≤ 5000) (hnp : np ≤ 5000) (hgl : g ≤ 5000) (hSh : Shape np n ls pr sd) (hql : sq.length = n) (hgg : grp.length = g) (hgr : ∀ j, j < g → InR np (grp.getD j 0))
    (hB0 : -9223372036854775808 ≤ B) (hB : B ≤ 9223372036854775807) (M : Nat) (hM : M ≤ 1000000000000) (hRM : 0 < g → ∀ k, Runs (ctxOf np g grp ls pr sd sq) B k → (st (ctxOf np g grp ls pr sd sq) k).steps ≤ M)
    (hC0 : w.cell? ⟨C, 0, none⟩ = some (.pointer (some ⟨R, 0, none⟩))) (hC1 : w.cell? ⟨C, 1, none⟩ = some (.slice (some ⟨Ge, 0, none⟩) np np)) (hev : IArr w Ge (evTo ls np np))
    (hrun : RunAt w R (.slice a0 np c0) (.slice a2 ls.length c2) (.slice a3 pr.length c3) (.slice a4 sd.length c4) E sq) (h2 : Ints w a2 ls) (h3 : Ints w a3 pr) (h4 : Ints w a4 sd) (h5 : Ints w ag grp)
    (H Rb : Nat) (wc : World) (m1 : IArr wc w.heap.size (locN grp np g)) (m2 : IArr wc H (List.replicate g 0)) (m3 : IArr wc Rb (List.replicate g 0)) (m4 : w.heap.size ≠ H ∧ w.heap.size ≠ Rb ∧ H ≠ Rb) (m5 : w.heap.size ≤ w.heap.size ∧ w.heap.size ≤ H ∧ w.heap.size ≤ Rb) (m6 : Below w.heap.size w wc) (hj0 : g = 0) :
    Code.wp Try.prog code (bodyPost Try.prog Try.f41 (WalkSays (ctxOf np g grp ls pr sd sq) (frOf (ctxOf np g grp ls pr sd sq)) B w)) ⟨((.pointer (some ⟨C, 0, none⟩) : Value) :: (.slice ag g cg : Value) :: (.int .i64 B : Value) :: z3 :: z4 :: z5 :: z6 :: z7 :: z8 :: (.pointer (some ⟨R, 0, none⟩) : Value) :: (.slice (some ⟨w.heap.size, 0, none⟩) np np : Value) :: z11 :: z12 :: z13 :: z14 :: z15 :: (.slice (some ⟨H, 0, none⟩) g g : Value) :: (.slice (some ⟨Rb, 0, none⟩) g g : Value) :: z18 :: z19 :: z20 :: z21 :: z22 :: z23 :: z24 :: z25 :: z26 :: z27 :: z28 :: z29 :: z30 :: z31 :: z32 :: z33 :: z34 :: z35 :: z36 :: z37 :: z38 :: z39 :: z40 :: z41 :: z42 :: z43 :: z44 :: z45 :: z46 :: z47 :: z48 :: z49 :: z50 :: z51 :: z52 :: z53 :: z54 :: z55 :: z56 :: z57 :: z58 :: z59 :: z60 :: z61 :: z62 :: z63 :: z64 :: z65 :: z66 :: z67 :: z68 :: z69 :: z70 :: z71 :: z72 :: z73 :: z74 :: z75 :: z76 :: z77 :: z78 :: z79 :: z80 :: z81 :: z82 :: z83 :: z84 :: z85 :: z86 :: z87 :: z88 :: z89 :: z90 :: z91 :: z92 :: z93 :: z94 :: z95 :: z96 :: z97 :: z98 :: z99 :: z100 :: z101 :: z102 :: z103 :: z104 :: z105 :: z106 :: z107 :: z108 :: z109 :: z110 :: z111 :: z112 :: z113 :: z114 :: z115 :: z116 :: z117 :: z118 :: z119 :: z120 :: z121 :: z122 :: z123 :: z124 :: z125 :: z126 :: z127 :: z128 :: z129 :: z130 :: z131 :: z132 :: z133 :: z134 :: z135 :: z136 :: z137 :: z138 :: z139 :: z140 :: z141 :: z142 :: z143 :: z144 :: z145 :: z146 :: z147 :: z148 :: z149 :: z150 :: z151 :: z152 :: z153 :: z154 :: z155 :: z156 :: z157 :: z158 :: z159 :: z160 :: z161 :: z162 :: z163 :: z164 :: z165 :: z166 :: z167 :: z168 :: z169 :: z170 :: z171 :: z172 :: z173 :: z174 :: z175 :: z176 :: z177 :: z178 :: z179 :: z180 :: z181 :: z182 :: z183 :: z184 :: z185 :: z186 :: z187 :: z188 :: z189 :: z190 :: z191 :: z192 :: z193 :: z194 :: z195 :: z196 :: z197 :: z198 :: z199 :: z200 :: z201 :: z202 :: z203 :: z204 :: z205 :: z206 :: z207 :: z208 :: z209 :: z210 :: z211 :: z212 :: z213 :: z214 :: z215 :: z216 :: z217 :: z218 :: z219 :: z220 :: z221 :: z222 :: z223 :: z224 :: z225 :: z226 :: z227 :: z228 :: z229 :: z230 :: z231 :: z232 :: z233 :: z234 :: z235 :: z236 :: z237 :: z238 :: z239 :: z240 :: z241 :: z242 :: z243 :: z244 :: z245 :: z246 :: z247 :: z248 :: z249 :: z250 :: z251 :: z252 :: z253 :: z254 :: z255 :: z256 :: z257 :: z258 :: z259 :: z260 :: z261 :: z262 :: z263 :: z264 :: z265 :: z266 :: z267 :: z268 :: z269 :: z270 :: z271 :: z272 :: z273 :: z274 :: z275 :: z276 :: z277 :: z278 :: z279 :: z280 :: z281 :: z282 :: z283 :: z284 :: z285 :: z286 :: z287 :: z288 :: z289 :: z290 :: z291 :: z292 :: z293 :: z294 :: z295 :: z296 :: z297 :: z298 :: z299 :: z300 :: z301 :: z302 :: z303 :: z304 :: z305 :: z306 :: z307 :: z308 :: z309 :: z310 :: z311 :: z312 :: z313 :: z314 :: z315 :: z316 :: z317 :: z318 :: z319 :: z320 :: z321 :: z322 :: z323 :: z324 :: z325 :: z326 :: z327 :: z328 :: z329 :: z330 :: z331 :: z332 :: z333 :: z334 :: z335 :: z336 :: z337 :: z338 :: z339 :: z340 :: z341 :: z342 :: z343 :: z344 :: z345 :: z346 :: []).toArray, []⟩ wc := by
  obtain ⟨b2, off2, hix2, hcell2⟩ := ints_open h2
  obtain ⟨b3, off3, hix3, hcell3⟩ := ints_open h3
  obtain ⟨b4, off4, hix4, hcell4⟩ := ints_open h4
  obtain ⟨b5, off5, hix5, hcell5⟩ := ints_open h5
  have HSh : Hid (Shape np n ls pr sd) := hSh
  have hpl := hSh.plen
  have hsl := hSh.senders.len
  have hll := hSh.lanes.len
  rw [hpl] at hix3 hcell3
  rw [hsl] at hix4 hcell4
  rw [hll] at hix2 hcell2
  rw [hgg] at hix5 hcell5
  rw [hpl, hsl, hll] at hrun
  have HC2 : Hid (∀ j, j < np + 1 → w.cell? ⟨b2, off2 + j, none⟩ = some (.int .i64 (ls.getD j 0))) := hcell2
  have HC3 : Hid (∀ j, j < n → w.cell? ⟨b3, off3 + j, none⟩ = some (.int .i64 (pr.getD j 0))) := hcell3
  have HC4 : Hid (∀ j, j < n → w.cell? ⟨b4, off4 + j, none⟩ = some (.int .i64 (sd.getD j 0))) := hcell4
  have HC5 : Hid (∀ j, j < g → w.cell? ⟨b5, off5 + j, none⟩ = some (.int .i64 (grp.getD j 0))) := hcell5
  have HX2 : Hid (∀ (k : Nat) (w' : World), k < np + 1 → (Instr.indexAt 23 (.slice a2 (np + 1) c2) (.int .i64 k)).run Try.prog w' = .ok (.pointer (some ⟨b2, off2 + k, none⟩)) w') := fun k w' h => hix2 c2 k w' h
  have HX3 : Hid (∀ (k : Nat) (w' : World), k < n → (Instr.indexAt 23 (.slice a3 n c3) (.int .i64 k)).run Try.prog w' = .ok (.pointer (some ⟨b3, off3 + k, none⟩)) w') := fun k w' h => hix3 c3 k w' h
  have HX4 : Hid (∀ (k : Nat) (w' : World), k < n → (Instr.indexAt 23 (.slice a4 n c4) (.int .i64 k)).run Try.prog w' = .ok (.pointer (some ⟨b4, off4 + k, none⟩)) w') := fun k w' h => hix4 c4 k w' h
  have HX5 : Hid (∀ (k : Nat) (w' : World), k < g → (Instr.indexAt 23 (.slice ag g cg) (.int .i64 k)).run Try.prog w' = .ok (.pointer (some ⟨b5, off5 + k, none⟩)) w') := fun k w' h => hix5 cg k w' h
  have HXL : Hid (∀ (k : Nat) (w' : World), k < np → (Instr.indexAt 23 (.slice (some ⟨w.heap.size, 0, none⟩) np np) (.int .i64 k)).run Try.prog w' = .ok (.pointer (some ⟨w.heap.size, k, none⟩)) w') :=
    fun k w' hk => by simpa using indexAt_one Try.underlying23 Try.info3 w.heap.size 0 _ np k hk w'
  have HGR : Hid (∀ j, j < g → InR np (grp.getD j 0)) := hgr
  have HRun : Hid (RunAt w R (.slice a0 np c0) (.slice a2 (np + 1) c2) (.slice a3 n c3) (.slice a4 n c4) E sq) := hrun
  have HCC : Hid (w.cell? ⟨C, 0, none⟩ = some (.pointer (some ⟨R, 0, none⟩)) ∧ w.cell? ⟨C, 1, none⟩ = some (.slice (some ⟨Ge, 0, none⟩) np np)) := ⟨hC0, hC1⟩
  have HEV : Hid (IArr w Ge (evTo ls np np)) := hev
  have HRM : Hid (0 < g → ∀ k, Runs (ctxOf np g grp ls pr sd sq) B k → (st (ctxOf np g grp ls pr sd sq) k).steps ≤ M) := hRM
  have HQ : Hid (sq.length = n) := hql
  clear hcell2 hcell3 hcell4 hcell5 hix2 hix3 hix4 hix5 h2 h3 h4 h5 hSh hpl hsl hll hgr hrun hev hRM hgg hql
  obtain ⟨c, hc⟩ : ∃ c, c = ctxOf np g grp ls pr sd sq := ⟨_, rfl⟩
  have HCX : Hid (c = ctxOf np g grp ls pr sd sq) := hc
  rw [← hc] at HRM ⊢
  clear hc
  have HGc : Hid (c.g = g) := (by unfold Hid; rw [HCX.out]; rfl)
  have HLc : Hid (c.loc = locN grp np g) := (by unfold Hid; rw [HCX.out]; rfl)
  have HLl : Hid ((locN grp np g).length = np) := locN_len grp np g
  obtain ⟨A, hA⟩ : ∃ A, A = w.heap.size := ⟨_, rfl⟩
  rw [← hA] at HXL m1 m4 m5
  rw [hA] at m5
  have m5 : w.heap.size ≤ A ∧ w.heap.size ≤ H ∧ w.heap.size ≤ Rb := ⟨by omega, m5.2.1, m5.2.2⟩
  generalize locN grp np g = loc at m1 HLc HLl
  have HW0 : Hid (WM w (wc.alloc (.cells #[.int .i64 (-1), .int .i64 (-1), .int .i64 (-1), .int .i64 0, .int .i64 0] 83)) A H Rb wc.heap.size 1 loc (List.replicate g 0) (List.replicate g 0) [root]) :=
    ⟨m1.alloc _, m2.alloc _, m3.alloc _, prow_root wc, by have := m1.lt; have := m2.lt; have := m3.lt; omega, by have := m6.size; omega, m6.alloc m6.size _⟩
  have HXH : Hid (∀ (k : Nat) (w' : World), k < g → (Instr.indexAt 23 (.slice (some ⟨H, 0, none⟩) g g) (.int .i64 k)).run Try.prog w' = .ok (.pointer (some ⟨H, k, none⟩)) w') :=
    fun k w' hk => by simpa using indexAt_one Try.underlying23 Try.info3 H 0 _ g k hk w'
  have HXR : Hid (∀ (k : Nat) (w' : World), k < g → (Instr.indexAt 23 (.slice (some ⟨Rb, 0, none⟩) g g) (.int .i64 k)).run Try.prog w' = .ok (.pointer (some ⟨Rb, k, none⟩)) w') :=
    fun k w' hk => by simpa using indexAt_one Try.underlying23 Try.info3 Rb 0 _ g k hk w'
  clear m1 m2 m3 m4 m5 m6 hC0 hC1
  have HG0 : Hid (c.g = 0) := (by unfold Hid; rw [HGc.out]; exact hj0)
  have hgz : ((0 : Int) == (g : Int)) = true := by simp; omega
  clear hj0
  subst hcode
  conv => arg 2; whnf
  go_wp2
  go_loopw [18, 19, 20] (fun v18 v19 v20 wr => ((∃ gp cap, v18 = .slice (some ⟨gp, 0, none⟩) 1 cap ∧ PRow wr gp cap [root]) ∨ (∃ gp cap, v18 = .slice (some ⟨gp, 0, none⟩) 0 cap)) ∧ v19 = .int .i64 1 ∧ v20 = .int .i64 0 ∧ Below w.heap.size w wr) (fun v18 _ _ _ => sliceLen v18)
  case atStart => exact ⟨.inl ⟨_, _, rfl, HW0.out.pa⟩, rfl, rfl, HW0.out.bel⟩
  case round =>
    clear HW0
    obtain ⟨hc0, rfl, rfl, hbel⟩ := hrel
    rcases hc0 with ⟨gp, cap, rfl, hP⟩ | ⟨gp, cap, rfl⟩
    · have t0 : wr.cell? ⟨gp, 0, none⟩ = some (.int .i64 (-1)) := by have := hP.top 0 (by omega); simpa [root, peCells] using this
      have t4 : wr.cell? ⟨gp, 4, none⟩ = some (.int .i64 0) := by have := hP.top 4 (by omega); simpa [root, peCells] using this
      have hroom := hP.room
      have hixP : ∀ w', (Instr.indexAt 84 (.slice (some ⟨gp, 0, none⟩) 1 cap) (.int .i64 0)).run Try.prog w' = .ok (.pointer (some ⟨gp, 0, none⟩)) w' := fun w' => by simpa using indexAt_path gp 1 cap 0 (by omega) w'
      simp only [List.length_singleton] at hroom
      clear hP
      go_wp2
      go_roundw
      case rel => exact ⟨.inr ⟨gp, cap, rfl⟩, rfl, rfl, hbel⟩
      case measure => simp [sliceLen]
    · go_wp2
      go_ret3
      exact ⟨hbel, 1, 0, true, rfl, .inl ⟨HG0.out, rfl, rfl, rfl⟩⟩
end Go.Proofs.Qxb6603214a
