import Derived.Test.Qxb6603214aS4W
import Derived.Test.Qxb6603214aNCS
import Derived.Deep.QuietTactic
import Derived.BigQuiet
import Derived.OwnWalk
import Derived.Laws.BitsLemmas
namespace Go.Proofs.Qxb6603214a
open Go.RowKit Go.Maps
set_option linter.unusedVariables false

/-- Nothing but the draws has turned. -/
def Kept (w wr : World) : Prop := wr.heap = w.heap ∧ Below w.heap.size w wr
theorem Kept.refl (w : World) : Kept w w := ⟨rfl, Below.refl _ _⟩
theorem Kept.drewN {w wr : World} (h : Kept w wr) (d : Nat) : Kept w (wr.drewN d) := ⟨h.1, below_drewN h.2 d⟩
theorem Kept.trans {w w1 w2 : World} (h : Kept w w1) (h2 : Kept w1 w2) : Kept w w2 := ⟨h2.1.trans h.1, h.2.trans (h2.2.mono (by rw [h.1]; exact Nat.le_refl _))⟩
theorem Kept.ints {w wr : World} {a : Option Addr} {zs : List Int} (h : Kept w wr) (hi : Ints w a zs) : Ints wr a zs := hi.below h.2 (Nat.le_refl _)
theorem CMem.kept {w wr w1 : World} {C Ge Mb T np sz : Nat} {rp : Value} {ev : List Int} {f : Lit → Value} {tv : Int → Value} {tk : Int → List Int} {pres : Int → Int → Bool} {rc sn : Int → Int → List Int} {tg : Nat → List Int}
    (h : CMem [] w wr C Ge Mb T np sz rp ev f tv tk pres rc sn tg) (hk : Kept wr w1) : CMem [] w w1 C Ge Mb T np sz rp ev f tv tk pres rc sn tg :=
  h.turn [] (by rw [hk.1]; exact Nat.le_refl _) (h.below.trans (hk.2.mono h.below.size)) (fun b _ _ => by rw [hk.1]) (fun b _ => rfl)
theorem IOwn.open {w : World} {v : Value} {zs : List Int} (h : IOwn w v zs) : ∃ a c, v = .slice a zs.length c ∧ Ints w a zs := by
  rcases h.cases with ⟨e3, e4⟩ | ⟨g, cap, e3, hr⟩
  · exact ⟨none, 0, by rw [e3, e4]; rfl, by rw [e4]; exact Ints.nil _ _⟩
  · exact ⟨_, cap, e3, hr.ints⟩

/-- 'It answers true; nothing but the draws has turned.' -/
def SaysK (w : World) (e : Ending) (w' : World) : Prop := e = .returned (.bool true) ∧ Kept w w'

theorem rise_at {l : List Int} (h : l.Pairwise (· < ·)) (k : Nat) (h1 : 1 ≤ k) (hk : k < l.length) : l.getD (k - 1) 0 < l.getD k 0 := by
  have e1 : l.getD (k - 1) 0 = l[k - 1] := by rw [List.getD_eq_getElem?_getD, List.getElem?_eq_getElem (by omega)]; rfl
  have e2 : l.getD k 0 = l[k] := by rw [List.getD_eq_getElem?_getD, List.getElem?_eq_getElem hk]; rfl
  rw [e1, e2]
  exact List.pairwise_iff_getElem.1 h (k - 1) k (by omega) hk (by omega)

/-! ### zzLinkOK -/
set_option maxHeartbeats 4000000 in
set_option maxRecDepth 20000 in
theorem linkOK_yes (a0 a1 a2 a5 a6 : Option Addr) (c0 c1 c2 c5 c6 : Nat) (pr sd sq rc sn : List Int) (n : Nat) (p q : Int) (w : World) (hn : n ≤ 5000) (hpl : pr.length = n) (hS : Senders n sd) (hql : sq.length = n) (hrl : rc.length ≤ 5000)
    (h0 : Ints w a0 pr) (h1 : Ints w a1 sd) (h2 : Ints w a2 sq) (h5 : Ints w a5 rc) (h6 : Ints w a6 sn) (hne : rc ≠ []) (hlen : rc.length = sn.length) (hs1 : 1 ≤ sn.getD 0 0) (hrc : rc.Pairwise (· < ·)) (hsn : sn.Pairwise (· < ·)) (hneed : ∀ c, linkTo rc sn c rc.length = needTo pr sd sq p q c n) :
    Calls Try.prog 27 #[.slice a0 pr.length c0, .slice a1 sd.length c1, .slice a2 sq.length c2, .int .i64 p, .int .i64 q, .slice a5 rc.length c5, .slice a6 sn.length c6] w (SaysK w) := by
  obtain ⟨b0, off0, hix0, hcell0⟩ := ints_open h0
  obtain ⟨b1, off1, hix1, hcell1⟩ := ints_open h1
  obtain ⟨b2, off2, hix2, hcell2⟩ := ints_open h2
  obtain ⟨b5, off5, hix5, hcell5⟩ := ints_open h5
  obtain ⟨b6, off6, hix6, hcell6⟩ := ints_open h6
  have hsl := hS.len
  have HN39 : Hid (∀ (c : Int) (w' : World), Kept w w' → Calls Try.prog 39 #[.slice a0 n c0, .slice a1 n c1, .slice a2 n c2, .int .i64 p, .int .i64 q, .int .i64 c] w' (fun e w'' => e = .returned (.int .i64 (needTo pr sd sq p q c n)) ∧ w'' = w')) := fun c w' hk => by
    have := need_any a0 a1 a2 c0 c1 c2 pr sd sq n p q c w' hn hpl hS hql (hk.ints h0) (hk.ints h1) (hk.ints h2)
    rw [hpl, hsl, hql] at this
    exact this
  have HN40 : Hid (∀ (c : Int) (w' : World), Kept w w' → Calls Try.prog 40 #[.slice a5 rc.length c5, .slice a6 rc.length c6, .int .i64 c] w' (fun e w'' => e = .returned (.int .i64 (needTo pr sd sq p q c n)) ∧ w'' = w')) := fun c w' hk => by
    have := linkNeed_any a5 a6 c5 c6 rc sn c w' (by omega) hlen (hk.ints h5) (hk.ints h6)
    rw [← hlen, hneed] at this
    exact this
  rw [hpl] at hix0 hcell0
  rw [hsl] at hix1 hcell1
  rw [hql] at hix2 hcell2
  rw [← hlen] at hix6 hcell6
  rw [hpl, hsl, hql, ← hlen]
  have HC0 : Hid (∀ j, j < n → w.cell? ⟨b0, off0 + j, none⟩ = some (.int .i64 (pr.getD j 0))) := hcell0
  have HC1 : Hid (∀ j, j < n → w.cell? ⟨b1, off1 + j, none⟩ = some (.int .i64 (sd.getD j 0))) := hcell1
  have HC2 : Hid (∀ j, j < n → w.cell? ⟨b2, off2 + j, none⟩ = some (.int .i64 (sq.getD j 0))) := hcell2
  have HC5 : Hid (∀ j, j < rc.length → w.cell? ⟨b5, off5 + j, none⟩ = some (.int .i64 (rc.getD j 0))) := hcell5
  have HC6 : Hid (∀ j, j < rc.length → w.cell? ⟨b6, off6 + j, none⟩ = some (.int .i64 (sn.getD j 0))) := hcell6
  have HX0 : Hid (∀ (k : Nat) (w' : World), k < n → (Instr.indexAt 23 (.slice a0 n c0) (.int .i64 k)).run Try.prog w' = .ok (.pointer (some ⟨b0, off0 + k, none⟩)) w') := fun k w' h => hix0 c0 k w' h
  have HX1 : Hid (∀ (k : Nat) (w' : World), k < n → (Instr.indexAt 23 (.slice a1 n c1) (.int .i64 k)).run Try.prog w' = .ok (.pointer (some ⟨b1, off1 + k, none⟩)) w') := fun k w' h => hix1 c1 k w' h
  have HX2 : Hid (∀ (k : Nat) (w' : World), k < n → (Instr.indexAt 23 (.slice a2 n c2) (.int .i64 k)).run Try.prog w' = .ok (.pointer (some ⟨b2, off2 + k, none⟩)) w') := fun k w' h => hix2 c2 k w' h
  have HX5 : Hid (∀ (k : Nat) (w' : World), k < rc.length → (Instr.indexAt 23 (.slice a5 rc.length c5) (.int .i64 k)).run Try.prog w' = .ok (.pointer (some ⟨b5, off5 + k, none⟩)) w') := fun k w' h => hix5 c5 k w' h
  have HX6 : Hid (∀ (k : Nat) (w' : World), k < rc.length → (Instr.indexAt 23 (.slice a6 rc.length c6) (.int .i64 k)).run Try.prog w' = .ok (.pointer (some ⟨b6, off6 + k, none⟩)) w') := fun k w' h => hix6 c6 k w' h
  have HSn : Hid (∀ j, j < n → sd.getD j 0 < n) := hS.lt
  have hpos : 0 < rc.length := List.length_pos_iff.2 hne
  have hx60 : ∀ w', (Instr.indexAt 23 (.slice a6 rc.length c6) (.int .i64 0)).run Try.prog w' = .ok (.pointer (some ⟨b6, off6, none⟩)) w' := fun w' => by have := HX6.out 0 w' hpos; rwa [Nat.add_zero] at this
  have g60 : w.cell? ⟨b6, off6, none⟩ = some (.int .i64 (sn.getD 0 0)) := by have := hcell6 0 hpos; rwa [Nat.add_zero] at this
  have HR5 : Hid (∀ k, 1 ≤ k → k < rc.length → rc.getD (k - 1) 0 < rc.getD k 0) := rise_at hrc
  have HR6 : Hid (∀ k, 1 ≤ k → k < rc.length → sn.getD (k - 1) 0 < sn.getD k 0) := fun k h1 h2 => rise_at hsn k h1 (by omega)
  generalize sn.getD 0 0 = s0 at g60 hs1
  have hl0 : ((rc.length : Int) == 0) = false := by simp; exact hne
  clear hcell0 hcell1 hcell2 hcell5 hcell6 hix0 hix1 hix2 hix5 hix6 h0 h1 h2 h5 h6 hS hpl hsl hql hrc hsn hneed hlen hne
  generalize rc.length = L at *
  go_enter Try.func27, Try.ntmps27
  go_wp2
  go_loopw [15] (fun v wr => ∃ k : Nat, 1 ≤ k ∧ k ≤ L ∧ v = .int .i64 k ∧ Kept w wr) (fun v _ => L - (intOf v).toNat)
  case atStart => exact ⟨1, Nat.le_refl _, hpos, rfl, Kept.refl w⟩
  case round =>
    obtain ⟨k, hk1, hk, rfl, hkp⟩ := hrel
    clear hx60 g60
    by_cases hlt : k < L
    · as_aux_lemma =>
        have l5 := HR5.out k hk1 hlt
        have l6 := HR6.out k hk1 hlt
        have g5 : wr.cell? ⟨b5, off5 + k, none⟩ = some (.int .i64 (rc.getD k 0)) := cell_later hkp.2 (HC5.out k hlt)
        have g5' : wr.cell? ⟨b5, off5 + (k - 1), none⟩ = some (.int .i64 (rc.getD (k - 1) 0)) := cell_later hkp.2 (HC5.out (k - 1) (by omega))
        have g6 : wr.cell? ⟨b6, off6 + k, none⟩ = some (.int .i64 (sn.getD k 0)) := cell_later hkp.2 (HC6.out k hlt)
        have g6' : wr.cell? ⟨b6, off6 + (k - 1), none⟩ = some (.int .i64 (sn.getD (k - 1) 0)) := cell_later hkp.2 (HC6.out (k - 1) (by omega))
        have hx5 := fun w' => HX5.out k w' hlt
        have hx6 := fun w' => HX6.out k w' hlt
        have hx5' : ∀ w', (Instr.indexAt 23 (.slice a5 L c5) (.int .i64 ((k : Int) - 1))).run Try.prog w' = .ok (.pointer (some ⟨b5, off5 + (k - 1), none⟩)) w' := fun w' => by
          have := HX5.out (k - 1) w' (by omega)
          rwa [show ((k - 1 : Nat) : Int) = (k : Int) - 1 from by omega] at this
        have hx6' : ∀ w', (Instr.indexAt 23 (.slice a6 L c6) (.int .i64 ((k : Int) - 1))).run Try.prog w' = .ok (.pointer (some ⟨b6, off6 + (k - 1), none⟩)) w' := fun w' => by
          have := HX6.out (k - 1) w' (by omega)
          rwa [show ((k - 1 : Nat) : Int) = (k : Int) - 1 from by omega] at this
        have hwk : IntKind.i64.wrap ((k : Int) - 1) = (k : Int) - 1 := by rw [IntKind.wrap_i64]; omega
        generalize rc.getD k 0 = r1 at *
        generalize rc.getD (k - 1) 0 = r0 at *
        generalize sn.getD k 0 = x1 at *
        generalize sn.getD (k - 1) 0 = x0 at *
        generalize off5 + (k - 1) = o5 at *
        generalize off6 + (k - 1) = o6 at *
        clear HN39 HN40 HC0 HC1 HC2 HX0 HX1 HX2
        go_wp2
        go_quiet (fail)
        go_wp2
        go_roundw
        case rel => exact ⟨k + 1, by omega, hlt, by go_num, hkp.drewN _⟩
        case measure => simp [intOf]; omega
    · clear hk1
      go_wp2
      go_loopw [16] (fun v wr => ∃ k : Nat, k ≤ L ∧ v = .int .i64 k ∧ Kept w wr) (fun v _ => L - (intOf v).toNat)
      case atStart => exact ⟨0, Nat.zero_le _, rfl, hkp⟩
      case round =>
        clear hkp hk hlt
        obtain ⟨k, hk, rfl, hkp⟩ := hrel
        by_cases hlt : k < L
        · as_aux_lemma =>
            have g5 : wr.cell? ⟨b5, off5 + k, none⟩ = some (.int .i64 (rc.getD k 0)) := cell_later hkp.2 (HC5.out k hlt)
            have hx5 := fun w' => HX5.out k w' hlt
            have HA39 : Hid (∀ (c : Int) (d : Nat), Calls Try.prog 39 #[.slice a0 n c0, .slice a1 n c1, .slice a2 n c2, .int .i64 p, .int .i64 q, .int .i64 c] (wr.drewN d) (fun e w'' => e = .returned (.int .i64 (needTo pr sd sq p q c n)) ∧ w'' = wr.drewN d)) := fun c d => HN39.out c _ (hkp.drewN d)
            have HA40 : Hid (∀ (c : Int) (d : Nat), Calls Try.prog 40 #[.slice a5 L c5, .slice a6 L c6, .int .i64 c] (wr.drewN d) (fun e w'' => e = .returned (.int .i64 (needTo pr sd sq p q c n)) ∧ w'' = wr.drewN d)) := fun c d => HN40.out c _ (hkp.drewN d)
            generalize rc.getD k 0 = r1 at *
            clear HN39 HN40 HC0 HC1 HC2 HX0 HX1 HX2
            go_wp2
            go_quiet (first | (go_at_call 39; exact Calls.quiet_of_same (HA39.out _ _)) | (go_at_call 40; exact Calls.quiet_of_same (HA40.out _ _)))
            go_wp2
            go_roundw
            case rel => exact ⟨k + 1, hlt, by go_num, hkp.drewN _⟩
            case measure => simp [intOf]; omega
        · go_wp2
          go_loopw [17] (fun v wr => ∃ k : Nat, k ≤ n ∧ v = .int .i64 k ∧ Kept w wr) (fun v _ => n - (intOf v).toNat)
          case atStart => exact ⟨0, Nat.zero_le _, rfl, hkp⟩
          case round =>
            clear hkp hk hlt
            obtain ⟨k, hk, rfl, hkp⟩ := hrel
            by_cases hlt : k < n
            · have g1 : wr.cell? ⟨b1, off1 + k, none⟩ = some (.int .i64 (sd.getD k 0)) := cell_later hkp.2 (HC1.out k hlt)
              have hx1 := fun w' => HX1.out k w' hlt
              by_cases h0 : sd.getD k 0 < 0
              · as_aux_lemma =>
                  generalize sd.getD k 0 = sv at *
                  go_wp2
                  go_roundw
                  case rel => exact ⟨k + 1, hlt, by go_num, hkp⟩
                  case measure => simp [intOf]; omega
              · obtain ⟨S, hSv⟩ : ∃ S : Nat, sd.getD k 0 = S := ⟨(sd.getD k 0).toNat, by omega⟩
                have hSn : S < n := by have := HSn.out k hlt; omega
                have g0 : wr.cell? ⟨b0, off0 + k, none⟩ = some (.int .i64 (pr.getD k 0)) := cell_later hkp.2 (HC0.out k hlt)
                have hx0 := fun w' => HX0.out k w' hlt
                have g3 : wr.cell? ⟨b0, off0 + S, none⟩ = some (.int .i64 (pr.getD S 0)) := cell_later hkp.2 (HC0.out S hSn)
                have hx3 := fun w' => HX0.out S w' hSn
                have g2 : wr.cell? ⟨b2, off2 + k, none⟩ = some (.int .i64 (sq.getD k 0)) := cell_later hkp.2 (HC2.out k hlt)
                have hx2 := fun w' => HX2.out k w' hlt
                rw [hSv] at g1
                clear h0 hSv
                have HA39 : Hid (∀ (c : Int) (d : Nat), Calls Try.prog 39 #[.slice a0 n c0, .slice a1 n c1, .slice a2 n c2, .int .i64 p, .int .i64 q, .int .i64 c] (wr.drewN d) (fun e w'' => e = .returned (.int .i64 (needTo pr sd sq p q c n)) ∧ w'' = wr.drewN d)) := fun c d => HN39.out c _ (hkp.drewN d)
                have HA40 : Hid (∀ (c : Int) (d : Nat), Calls Try.prog 40 #[.slice a5 L c5, .slice a6 L c6, .int .i64 c] (wr.drewN d) (fun e w'' => e = .returned (.int .i64 (needTo pr sd sq p q c n)) ∧ w'' = wr.drewN d)) := fun c d => HN40.out c _ (hkp.drewN d)
                generalize pr.getD k 0 = A at *
                generalize pr.getD S 0 = B at *
                generalize sq.getD k 0 = r1 at *
                clear HN39 HN40
                by_cases e1 : A = p
                · by_cases e2 : B = q
                  · as_aux_lemma =>
                      subst e1 e2
                      go_wp2
                      go_quiet (first | (go_at_call 39; exact Calls.quiet_of_same (HA39.out _ _)) | (go_at_call 40; exact Calls.quiet_of_same (HA40.out _ _)))
                      go_wp2
                      go_roundw
                      case rel => exact ⟨k + 1, hlt, by go_num, hkp.drewN _⟩
                      case measure => simp [intOf]; omega
                  · as_aux_lemma =>
                      subst e1
                      have eb : (B != q) = true := by simpa using e2
                      go_wp2
                      go_roundw
                      case rel => exact ⟨k + 1, hlt, by go_num, hkp⟩
                      case measure => simp [intOf]; omega
                · as_aux_lemma =>
                    have eb : (A != p) = true := by simpa using e1
                    go_wp2
                    go_roundw
                    case rel => exact ⟨k + 1, hlt, by go_num, hkp⟩
                    case measure => simp [intOf]; omega
            · go_wp2
              go_ret
              exact ⟨rfl, hkp⟩

/-! ### The counter's fields, read -/
section
variable {w wr : World} {C Ge Mb T np sz : Nat} {rp : Value} {ev : List Int} {f : Lit → Value} {tv : Int → Value} {tk : Int → List Int} {pres : Int → Int → Bool} {rc sn : Int → Int → List Int} {tg : Nat → List Int}

/-- 'It answers this value; no memory has turned.' -/
def SaysV (v : Value) (w : World) (e : Ending) (w' : World) : Prop := e = .returned v ∧ w' = w

set_option maxHeartbeats 400000 in
theorem events21 (h : CMem [] w wr C Ge Mb T np sz rp ev f tv tk pres rc sn tg) : Calls Try.prog 21 #[.pointer (some ⟨C, 0, none⟩)] wr (SaysV (.slice (some ⟨Ge, 0, none⟩) np np) wr) := by
  have k1 := h.c1 (by simp)
  clear h
  go_enter Try.func21, Try.ntmps21
  go_wp2
  go_ret
  exact ⟨rfl, rfl⟩
set_option maxHeartbeats 400000 in
theorem talks22 (h : CMem [] w wr C Ge Mb T np sz rp ev f tv tk pres rc sn tg) : Calls Try.prog 22 #[.pointer (some ⟨C, 0, none⟩)] wr (SaysV (.slice (some ⟨T, 0, none⟩) np np) wr) := by
  have k1 := h.c3 (by simp)
  clear h
  go_enter Try.func22, Try.ntmps22
  go_wp2
  go_ret
  exact ⟨rfl, rfl⟩
set_option maxHeartbeats 400000 in
theorem count28 (h : CMem [] w wr C Ge Mb T np sz rp ev f tv tk pres rc sn tg) : Calls Try.prog 28 #[.pointer (some ⟨C, 0, none⟩)] wr (SaysV (.int .i64 sz) wr) := by
  have k1 := h.c2 (by simp)
  obtain ⟨D, hD, hs, _⟩ := h.map (by simp)
  have HD : Hid (wr.ownsMap Try.prog 74 VR Mb sz D) := hD
  have HS : Hid (Maps.size D = sz) := hs
  clear h hD hs
  go_enter Try.func28, Try.ntmps28
  go_wp2_with (first | (at_len; refine wpList_len_own _ rfl _ 70 rfl 74 73 Try.underlying70 VR Mb sz D rfl HD.out ?_))
  go_ret
  exact ⟨by rw [← HS.out]; rfl, rfl⟩

/-- A link's two lists. -/
def LinkGot (rc sn : List Int) (w : World) (e : Ending) (w' : World) : Prop := ∃ a0 c0 a1 c1, e = .returned (.tuple #[.slice a0 rc.length c0, .slice a1 sn.length c1, .bool true]) ∧ Kept w w' ∧ Ints w a0 rc ∧ Ints w a1 sn

set_option maxHeartbeats 1000000 in
theorem link26 (h : CMem [] w wr C Ge Mb T np sz rp ev f tv tk pres rc sn tg) (p q : Nat) (hp : p < np) (hq : q < np) (hnp : np ≤ 5000) (hpr : pres p q = true) : Calls Try.prog 26 #[.pointer (some ⟨C, 0, none⟩), .int .i64 p, .int .i64 q] wr (LinkGot (rc p q) (sn p q) wr) := by
  have k1 := h.c2 (by simp)
  have hm := h.map (by simp)
  obtain ⟨b, vr, vs, hf, hl⟩ := h.link p q ⟨by omega, by omega⟩ ⟨by omega, by omega⟩ hpr
  have lc0 : wr.cell? ⟨b, 0, none⟩ = some vr := by rw [(hl.cells (by simp)).cell]; rfl
  have lc1 : wr.cell? ⟨b, 1, none⟩ = some vs := by rw [(hl.cells (by simp)).cell]; rfl
  obtain ⟨a0, c0, rfl, i0⟩ := (hl.rrow (by simp)).open
  obtain ⟨a1, c1, rfl, i1⟩ := (hl.srow (by simp)).open
  have HM : Hid (VMap wr 74 Mb (.pointer none) sz f) := hm
  have HI0 : Hid (Ints wr a0 (rc p q)) := i0
  have HI1 : Hid (Ints wr a1 (sn p q)) := i1
  have HF : Hid (f (key p q) = .pointer (some ⟨b, 0, none⟩)) := hf
  have hwP := wf_small p (by omega)
  have hwQ := wf_small q (by omega)
  clear h hm hl i0 i1 hf hpr
  go_enter Try.func26, Try.ntmps26
  go_upto_region 2 with (first | (at_lookup; refine wpList_vlook rfl _ _ 70 rfl linkKeyed Try.underlying70 zero73 rfl HM.out _ _ rfl (key_of _ _ hwP hwQ) ?_))
  rw [HF.out]
  go_wp2
  go_quiet (fail)
  go_wp2
  go_ret3
  exact ⟨a0, c0, a1, c1, rfl, (Kept.refl wr).drewN _, HI0.out, HI1.out⟩
end
end Go.Proofs.Qxb6603214a
