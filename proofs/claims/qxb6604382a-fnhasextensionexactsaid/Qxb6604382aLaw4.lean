import Derived.Test.Qxb6604382aArgs
namespace Go.Proofs.Qxb6604382a
open Go.RowKit
set_option linter.unusedVariables false

/-- The loops that lay 'exts': behind w9 a row of slices, 'vs' of them laid. -/
def XRel (w9 wr : World) (v : Value) (vs : List Value) : Prop := ∃ g cap, v = .slice (some ⟨g, 0, none⟩) vs.length cap ∧ VRow w9 wr g cap vs

/-- 'u' laid in at K, and of 'vs' the first j. -/
def ins {α : Type} (vs : List α) (K : Nat) (u : α) (j : Nat) : List α := vs.take K ++ u :: (vs.take j).drop K
theorem ins_start {α : Type} (vs : List α) (K : Nat) (u : α) : ins vs K u K = vs.take K ++ [u] := by
  unfold ins
  rw [List.drop_eq_nil_of_le (by simp; omega)]
theorem ins_len {α : Type} (vs : List α) (K : Nat) (u : α) (j : Nat) (hK : K ≤ j) (hj : j ≤ vs.length) : (ins vs K u j).length = j + 1 := by
  unfold ins
  simp
  omega
theorem ins_more {α : Type} (vs : List α) (K : Nat) (u : α) (j : Nat) (d : α) (hK : K ≤ j) (hj : j < vs.length) : ins vs K u (j + 1) = ins vs K u j ++ [vs.getD j d] := by
  unfold ins
  rw [List.take_add_one, List.drop_append_of_le_length (by simp; omega)]
  simp [hj]
theorem ins_get {α : Type} (vs : List α) (K : Nat) (u : α) (d : α) (j : Nat) (hK : K ≤ vs.length) : (ins vs K u vs.length).getD j d = if j < K then vs.getD j d else if j = K then u else vs.getD (j - 1) d := by
  unfold ins
  rw [List.take_of_length_le (Nat.le_refl _)]
  simp only [List.getD_eq_getElem?_getD]
  by_cases h : j < K
  · rw [if_pos h, List.getElem?_append_left (by simp; omega), List.getElem?_take, if_pos h]
  · rw [if_neg h, List.getElem?_append_right (by simp; omega)]
    by_cases e : j = K
    · rw [if_pos e, e]
      simp [Nat.min_eq_left hK]
    · rw [if_neg e]
      have : j - (vs.take K).length = (j - 1 - K) + 1 := by simp; omega
      rw [this, List.getElem?_cons_succ, List.getElem?_drop]
      congr 2
      omega
theorem ins_any (cs : List (List Int)) (K : Nat) (ys : List Int) (j : Nat) : (ins cs K ys j).any (· == ys) = true := by
  rw [List.any_eq_true]
  exact ⟨ys, by simp [ins], by simp⟩

theorem single_get (v d : Value) (j : Nat) (hj : j < 1) : [v].getD j d = v := by
  obtain rfl : j = 0 := by omega
  rfl
theorem single_getc (v : List Int) (j : Nat) (hj : j < 1) : [v].getD j [] = v := by
  obtain rfl : j = 0 := by omega
  rfl
/-- has12 of one extension, which lies in a block of its own. -/
theorem has12_one (g : Nat) (v : Value) (a3 : Option Addr) (c3 m : Nat) (zs ys : List Int) (w : World) (hm : ys.length = m) (hy : m ≤ 10000000) (hz : zs.length ≤ 10000000)
    (h0 : Arr w g 25 [v]) (hv : IsI 0 w v zs) (h3 : Row 0 w a3 (ivs ys)) :
    Calls Try.prog 12 #[.slice (some ⟨g, 0, none⟩) 1 1, .slice none 0 0, .slice none 0 0, .slice a3 m c3] w (SaysB (zs == ys) w) := by
  have := has12_bare [v] (some ⟨g, 0, none⟩) a3 1 c3 1 m [zs] ys w rfl hm (by omega) hy rfl (fun j hj => by rw [single_getc _ _ hj]; exact hz) (h0.row.mono (Nat.zero_le _)) h3 (fun j hj => by rw [single_get _ _ _ hj, single_getc _ _ hj]; exact hv)
  simpa using this
theorem long_ne (ys : List Int) (x : Int) : (ys ++ [x] == ys) = false := by
  rw [beq_eq_false_iff_ne]
  intro e
  have := congrArg List.length e
  simp at this
theorem long_ne' (ys : List Int) (x : Int) : (ys == ys ++ [x]) = false := by
  rw [beq_eq_false_iff_ne]
  intro e
  have := congrArg List.length e
  simp at this

set_option maxHeartbeats 2000000 in
set_option maxRecDepth 20000 in
theorem law4_walk (a0 a1 : Option Addr) (c0 c1 : Nat) (us : List Value) (cs : List (List Int)) (ys : List Int) (k x : Int) (w : World) (h0 : ArgL .i64 w a0 c0 us cs) (h1 : ArgR w a1 c1 (ivs ys)) :
    Calls Try.prog 4 #[.slice a0 us.length c0, .slice a1 ys.length c1, .int .i64 k, .int .i64 x] w (LawTrue w) := by
  have b0 := h0.len
  have b1 := h1.len
  rw [ivs_len] at b1
  have hb13 := bytes13 a0 a1 c0 c1 ys.length us _ k x w 0 b0 b1 h0.row h0.lens
  have hw6 := within6 a0 none none a1 c0 0 0 c1 0 ys.length us [] _ (fun _ => 0) w 0 b0 (Nat.zero_le _) (Nat.zero_le _) b1 h0.row h0.lens (Row.nil _ _ _) (fun j hj => by simp at hj)
  have H0 : Hid (ArgL .i64 w a0 c0 us cs) := h0
  have H1 : Hid (ArgR w a1 c1 (ivs ys)) := h1
  clear h0 h1
  unfold maxLen at b0 b1
  go_enter Try.func4, Try.ntmps4
  go_wp2_with fail
  refine hb13.mono ?_
  rintro e w' ⟨β, rfl, _, rfl⟩
  cases β with
  | false =>
    go_wp2
    go_ret
    exact LawTrue.mk _ rfl (Below.refl _ _)
  | true =>
  go_wp2_with fail
  refine hw6.mono ?_
  rintro e w'' ⟨β, rfl, hfit, rfl⟩
  clear hb13 hw6
  cases β with
  | false =>
    go_wp2
    go_ret
    exact LawTrue.mk _ rfl (Below.refl _ _)
  | true =>
  have HF := hfit rfl
  clear hfit
  have f0 := HF.l0
  have f3 := HF.l3
  have HFe : Hid (∀ j, j < us.length → (cs.getD j []).length ≤ 1048576) := HF.e0
  clear HF
  by_cases q0 : k < 0
  · go_wp2
    go_ret
    exact LawTrue.mk _ rfl (Below.refl _ _)
  by_cases q1 : (us.length : Int) < k
  · go_wp2
    go_ret
    exact LawTrue.mk _ rfl (Below.refl _ _)
  obtain ⟨K, rfl⟩ : ∃ K : Nat, k = K := ⟨k.toNat, by omega⟩
  have hKn : K ≤ us.length := by omega
  go_wp2_with fail
  refine (clone7_arg H0.out (by omega) (fun j hj => by have := HFe.out j hj; omega)).mono ?_
  rintro e w1 ⟨a2, c2, vs, rfl, hvl, hvr, hvin, hbel1⟩
  go_wp2_with fail
  refine (clone10_arg (H1.out.row.below hbel1) H1.out.nil (by omega)).mono ?_
  rintro e w2 ⟨a3, c3, rfl, hir, hin3, hbel2⟩
  have hvr2 := hvr.below hbel2
  have hvin2 := fun j hj => (hvin j hj).below hbel2
  have hbel : Below w''.heap.size w'' w2 := hbel1.trans (hbel2.mono hbel1.size)
  clear hvr hvin
  have hmk : ∀ w, (Instr.makeSlice 22 (.int .i64 0) (.int .i64 ((us.length : Int) + 1))).run Try.prog w = .ok (.slice (some ⟨w.heap.size, 0, none⟩) 0 (us.length + 1)) (w.alloc (.cells (madeCells #[.slice none 0 0] (us.length + 1)) 25)) := make_room (us.length + 1) (by omega)
  obtain ⟨b, off, hix, hcell, _⟩ := row_open hvr2 Try.underlying22 Try.info25
  rw [hvl] at hix hcell
  have HC : Hid (∀ j, j < us.length → w2.cell? ⟨b, off + j, none⟩ = some (vs.getD j undef)) := hcell
  have HV : Hid (∀ j, j < us.length → IsI 0 w2 (vs.getD j undef) (cs.getD j [])) := hvin2
  have HR : Hid (Row 0 w2 a3 (ivs ys)) := hir
  have HVL : Hid (vs.length = us.length) := hvl
  have HBel : Hid (Below w''.heap.size w'' w2) := hbel
  clear hcell hvin2 hvr2 hir hvl hbel hbel1 hbel2
  go_wp2
  go_loopw [9, 10] (fun v i wr => ∃ j : Nat, j ≤ K ∧ i = .int .i64 j ∧ XRel w2 wr v (vs.take j)) (fun _ i _ => K - (intOf i).toNat)
  case atStart => exact ⟨0, Nat.zero_le _, rfl, w2.heap.size, us.length + 1, by simp, VRow.made w2 (us.length + 1) (by omega)⟩
  case round =>
    obtain ⟨j, hj, rfl, g, cap, rfl, hrow⟩ := hrel
    by_cases hjK : j < K
    · have hjn : j < us.length := by omega
      have g1 : wr.cell? ⟨b, off + j, none⟩ = some (vs.getD j undef) := cell_later hrow.bel (HC.out j hjn)
      obtain ⟨ua, uc, hv, _⟩ := HV.out j hjn
      have htk : vs.take (j + 1) = vs.take j ++ [vs.getD j undef] := by
        have := HVL.out
        rw [List.take_add_one]
        simp [show j < vs.length by omega]
      rw [hv] at g1 htk
      have hrow1 := hrow.alloc (.cells #[.slice ua (ivs (cs.getD j [])).length uc] 25)
      have hlen : (vs.take j).length = j := by have := HVL.out; simp; omega
      have HT : Hid (vs.take (j + 1) = vs.take j ++ [.slice ua (ivs (cs.getD j [])).length uc]) := htk
      clear hv htk
      generalize (ivs (cs.getD j [])).length = un at *
      go_wp2_with (first | (at_builtin; refine wpList_vappend1 rfl _ _ rfl g cap (vs.take j) wr.heap.size ua un uc rfl hrow1 rfl (by simp) (by omega) ?_; intro g' cap' w3 hrow3))
      go_roundw
      case rel => exact ⟨j + 1, hjK, by go_num, g', cap', by rw [HT.out]; simp [hlen], by rw [HT.out]; exact hrow3⟩
      case measure => simp [intOf]; omega
    · have e : j = K := by omega
      subst e
      have hlen : (vs.take j).length = j := by have := HVL.out; simp; omega
      have hrow1 := hrow.alloc (.cells #[.slice a3 ys.length c3] 25)
      have HI3 : Hid (a3 = none → ivs ys = [] ∧ c3 = 0) := hin3
      clear hin3
      go_wp2_with (first | (at_builtin; refine wpList_vappend1 rfl _ _ rfl g cap (vs.take j) wr.heap.size a3 ys.length c3 rfl hrow1 rfl (by simp) (by omega) ?_; intro g' cap' w3 hrow3))
      rw [← ins_start] at hrow3
      go_loopw [9, 11] (fun v i wr => ∃ m : Nat, j ≤ m ∧ m ≤ us.length ∧ i = .int .i64 m ∧ XRel w2 wr v (ins vs j (.slice a3 ys.length c3) m)) (fun _ i _ => us.length - (intOf i).toNat)
      case atStart => exact ⟨j, Nat.le_refl _, hKn, rfl, g', cap', by rw [ins_len _ _ _ _ (Nat.le_refl _) (by rw [HVL.out]; exact hKn)], hrow3⟩
      case round =>
        clear hrow hrow1 hrow3
        obtain ⟨m, hm0, hm, rfl, gx, capx, rfl, hrow⟩ := hrel
        have hlm := ins_len vs j (.slice a3 ys.length c3) m hm0 (by rw [HVL.out]; exact hm)
        by_cases hmn : m < us.length
        · have g1 : wr.cell? ⟨b, off + m, none⟩ = some (vs.getD m undef) := cell_later hrow.bel (HC.out m hmn)
          obtain ⟨ua, uc, hv, _⟩ := HV.out m hmn
          have htk := ins_more vs j (.slice a3 ys.length c3) m undef hm0 (by rw [HVL.out]; exact hmn)
          rw [hv] at g1 htk
          have hrow1 := hrow.alloc (.cells #[.slice ua (ivs (cs.getD m [])).length uc] 25)
          have HT : Hid (ins vs j (.slice a3 ys.length c3) (m + 1) = ins vs j (.slice a3 ys.length c3) m ++ [.slice ua (ivs (cs.getD m [])).length uc]) := htk
          clear hv htk
          generalize (ivs (cs.getD m [])).length = un at *
          generalize hI : ins vs j (.slice a3 ys.length c3) m = I at *
          go_wp2_with (first | (at_builtin; refine wpList_vappend1 rfl _ _ rfl gx capx I wr.heap.size ua un uc rfl hrow1 rfl (by simp) (by omega) ?_; intro g5 cap5 w5 hrow5))
          go_roundw
          case rel => exact ⟨m + 1, by omega, hmn, by go_num, g5, cap5, by rw [HT.out]; simp [hlm], by rw [HT.out]; exact hrow5⟩
          case measure => simp [intOf]; omega
        · have e : m = us.length := by omega
          subst e
          have hX : ∀ q, q < us.length + 1 → IsI 0 wr ((ins vs j (.slice a3 ys.length c3) us.length).getD q undef) ((ins cs j ys us.length).getD q []) := by
            intro q hq
            have e1 := HVL.out
            have e2 := H0.out.cl
            rw [← e1, ins_get vs j _ undef q (by omega), e1, ← e2, ins_get cs j _ [] q (by omega)]
            by_cases h1 : q < j
            · rw [if_pos h1, if_pos h1]; exact (HV.out q (by omega)).below hrow.bel
            · rw [if_neg h1, if_neg h1]
              by_cases h2 : q = j
              · rw [if_pos h2, if_pos h2]; exact ⟨a3, c3, by rw [ivs_len], HI3.out, HR.out.below hrow.bel⟩
              · rw [if_neg h2, if_neg h2]; exact (HV.out (q - 1) (by omega)).below hrow.bel
          have hcl : (ins cs j ys us.length).length = us.length + 1 := ins_len cs j ys _ hKn (by rw [H0.out.cl]; exact Nat.le_refl _)
          have hlens : ∀ q, q < us.length + 1 → ((ins cs j ys us.length).getD q []).length ≤ 10000000 := by
            intro q hq
            have e2 := H0.out.cl
            rw [← e2, ins_get cs j _ [] q (by omega)]
            by_cases h1 : q < j
            · rw [if_pos h1]; have := HFe.out q (by omega); omega
            · rw [if_neg h1]
              by_cases h2 : q = j
              · rw [if_pos h2]; omega
              · rw [if_neg h2]; have := HFe.out (q - 1) (by omega); omega
          have hcall := has12_bare (ins vs j (.slice a3 ys.length c3) us.length) (some ⟨gx, 0, none⟩) a3 capx c3 (us.length + 1) ys.length (ins cs j ys us.length) ys wr hlm rfl (by omega) (by omega) hcl hlens hrow.row (HR.out.below hrow.bel) hX
          rw [ins_any] at hcall
          clear hX hlens hcl
          rw [hlm]
          have hbr := hrow.bel
          clear hrow hlm hix
          have hmk2 : ∀ w, (Instr.makeSlice 25 (.int .i64 ((ys.length : Int) + 1)) (.int .i64 ((ys.length : Int) + 1))).run Try.prog w = .ok (.slice (some ⟨w.heap.size, 0, none⟩) (ys.length + 1) (ys.length + 1)) (w.alloc (.cells (Array.replicate (ys.length + 1) (.int .i64 0)) 3)) :=
            fun w => make_one Try.underlying25 Try.info3 rfl (ys.length + 1) (by omega) (by omega) w
          go_wp2_with fail
          refine hcall.mono ?_
          rintro e w4 ⟨rfl, hb4⟩
          have hbw : Below w''.heap.size w'' w4 := HBel.out.trans ((hbr.trans (hb4.mono hbr.size)).mono HBel.out.size)
          have hr4 : Row 0 w4 a3 (ivs ys) := (HR.out.below hbr).below hb4
          clear hcall hbr hb4 HC HV HR HBel HVL hmk
          obtain ⟨b3, off3, hix3, hcell3, _⟩ := row_open hr4 Try.underlying25 Try.info3
          rw [ivs_len] at hix3 hcell3
          have HC3 : Hid (∀ j, j < ys.length → w4.cell? ⟨b3, off3 + j, none⟩ = some ((ivs ys).getD j undef)) := hcell3
          have HR4 : Hid (Row 0 w4 a3 (ivs ys)) := hr4
          have HB4 : Hid (Below w''.heap.size w'' w4) := hbw
          have hixL : ∀ (k : Nat) (w' : World), k < ys.length + 1 → (Instr.indexAt 25 (.slice (some ⟨w4.heap.size, 0, none⟩) (ys.length + 1) (ys.length + 1)) (.int .i64 k)).run Try.prog w' = .ok (.pointer (some ⟨w4.heap.size, k, none⟩)) w' :=
            fun k w' hk => by simpa using indexAt_one Try.underlying25 Try.info3 w4.heap.size 0 _ (ys.length + 1) k hk w'
          clear hcell3 hr4 hbw
          go_wp2
          go_loopw [13] (fun i wr => ∃ m : Nat, m ≤ ys.length ∧ i = .int .i64 m ∧ Arr wr w4.heap.size 3 ((ivs ys).take m ++ List.replicate ((ivs ys).length - m) (.int .i64 0) ++ [.int .i64 0]) ∧ Below w4.heap.size w4 wr) (fun i _ => ys.length - (intOf i).toNat)
          case atStart =>
            refine ⟨0, Nat.zero_le _, rfl, ?_, (Below.refl _ _).alloc (Nat.le_refl _) _⟩
            have := Arr.new w4 (Array.replicate (ys.length + 1) (Value.int .i64 0)) 3
            rw [Array.toList_replicate] at this
            rw [List.take_zero, List.nil_append, ivs_len, Nat.sub_zero, ← List.replicate_succ']
            exact this
          case round =>
            obtain ⟨m, hm, rfl, harr, hbel⟩ := hrel
            by_cases hlt : m < ys.length
            · have g1 : wr.cell? ⟨b3, off3 + m, none⟩ = some (.int .i64 (ys.getD m 0)) := by rw [← ivs_get ys m hlt]; exact cell_later hbel (HC3.out m hlt)
              obtain ⟨u, g2⟩ := harr.some m (by simp [ivs_len]; omega)
              have g3 := harr.frozen m
              have hset := harr.set m ((ivs ys).getD m undef)
              rw [List.set_append_left _ _ (by simp [ivs_len]; omega), take_set_succ (ivs ys) m _ _ (by rw [ivs_len]; exact hlt) rfl, ivs_get ys m hlt] at hset
              generalize ys.getD m 0 = y at *
              have hixm := fun w' => hixL m w' (by omega)
              clear hixL
              go_wp2
              go_roundw
              case rel => exact ⟨m + 1, hlt, by go_num, hset, hbel.setCell (Nat.le_refl _) _⟩
              case measure => simp [intOf]; omega
            · have e : m = ys.length := by omega
              subst e
              obtain ⟨u, g2⟩ := harr.some ys.length (by simp [ivs_len])
              have g3 := harr.frozen ys.length
              have hset := harr.set ys.length (.int .i64 x)
              rw [List.take_of_length_le (by rw [ivs_len]; exact Nat.le_refl _), ivs_len, Nat.sub_self, List.replicate_zero, List.append_nil, List.set_append_right _ _ (by rw [ivs_len]; exact Nat.le_refl _), ivs_len, Nat.sub_self, List.set_cons_zero] at hset
              have hbel5 := hbel.setCell (p := ⟨w4.heap.size, ys.length, none⟩) (Nat.le_refl _) (.int .i64 x)
              have hixm := fun w' => hixL ys.length w' (by omega)
              clear harr hixL
              have eivs : ivs ys ++ [Value.int .i64 x] = ivs (ys ++ [x]) := by simp [ivs]
              rw [eivs] at hset
              clear eivs
              have hlenL : (ys ++ [x]).length = ys.length + 1 := by simp
              have hLI : ∀ w', Arr w' w4.heap.size 3 (ivs (ys ++ [x])) → IsI 0 w' (.slice (some ⟨w4.heap.size, 0, none⟩) (ys.length + 1) (ys.length + 1)) (ys ++ [x]) := fun w' h => ⟨_, _, by rw [ivs_len, hlenL], fun h => (by cases h), h.row.mono (Nat.zero_le _)⟩
              generalize hw5 : wr.setCell ⟨w4.heap.size, ys.length, none⟩ (.int .i64 x) = w5 at hset hbel5
              have ha1 := fun o => (Below.refl w5.heap.size w5).alloc (Nat.le_refl _) o
              have hc1 := has12_one w5.heap.size (.slice (some ⟨w4.heap.size, 0, none⟩) (ys.length + 1) (ys.length + 1)) a3 c3 ys.length (ys ++ [x]) ys (w5.alloc (.cells #[.slice (some ⟨w4.heap.size, 0, none⟩) (ys.length + 1) (ys.length + 1)] 25)) rfl (by omega) (by omega) (Arr.new w5 _ 25) (hLI _ (hset.alloc _)) ((HR4.out.below hbel5).below (ha1 _))
              rw [long_ne] at hc1
              go_wp2_with fail
              refine hc1.mono ?_
              rintro e w6 ⟨rfl, hb6⟩
              have hb6' : Below w5.heap.size w5 w6 := (ha1 _).trans (hb6.mono (by simp))
              have hs6 := hset.below hb6' hset.lt
              have hr6 := (HR4.out.below hbel5).below hb6'
              have ha2 := fun o => (Below.refl w6.heap.size w6).alloc (Nat.le_refl _) o
              have hc2 := has12_one w6.heap.size (.slice a3 ys.length c3) (some ⟨w4.heap.size, 0, none⟩) (ys.length + 1) (ys.length + 1) ys (ys ++ [x]) (w6.alloc (.cells #[.slice a3 ys.length c3] 25)) hlenL (by omega) (by omega) (Arr.new w6 _ 25) ⟨a3, c3, by rw [ivs_len], HI3.out, hr6.below (ha2 _)⟩ ((hs6.alloc _).row.mono (Nat.zero_le _))
              rw [long_ne'] at hc2
              go_wp2_with fail
              refine hc2.mono ?_
              rintro e w7 ⟨rfl, hb7⟩
              have hb7' : Below w6.heap.size w6 w7 := (ha2 _).trans (hb7.mono (by simp))
              have hs7 := hs6.below hb7' hs6.lt
              have ha3 := fun o => (Below.refl w7.heap.size w7).alloc (Nat.le_refl _) o
              have hc3 := has12_one w7.heap.size (.slice (some ⟨w4.heap.size, 0, none⟩) (ys.length + 1) (ys.length + 1)) (some ⟨w4.heap.size, 0, none⟩) (ys.length + 1) (ys.length + 1) (ys ++ [x]) (ys ++ [x]) (w7.alloc (.cells #[.slice (some ⟨w4.heap.size, 0, none⟩) (ys.length + 1) (ys.length + 1)] 25)) hlenL (by omega) (by omega) (Arr.new w7 _ 25) (hLI _ (hs7.alloc _)) ((hs7.alloc _).row.mono (Nat.zero_le _))
              rw [beq_self_eq_true] at hc3
              go_wp2_with fail
              refine hc3.mono ?_
              rintro e w8 ⟨rfl, hb8⟩
              have hb8' : Below w7.heap.size w7 w8 := (ha3 _).trans (hb8.mono (by simp))
              go_wp2_with fail
              go_ret
              have e56 := hb6'.trans (hb7'.mono hb6'.size)
              have e58 := e56.trans (hb8'.mono e56.size)
              have e48 := hbel5.trans (e58.mono hbel5.size)
              exact LawTrue.mk _ rfl (HB4.out.trans (e48.mono HB4.out.size))
end Go.Proofs.Qxb6604382a
