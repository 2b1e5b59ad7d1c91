import Derived.Test.Qxb6603214aS4P
import Derived.Test.Qxb6603214aChk
namespace Go.Proofs.Qxb6603214a
open Go.RowKit
set_option linter.unusedVariables false

/-- 'It answers this number; no memory has turned.' -/
def SaysN (v : Int) (w : World) (e : Ending) (w' : World) : Prop := e = .returned (.int .i64 v) ∧ w' = w
/-- 'It answers this bool; no memory has turned.' -/
def SaysY (β : Bool) (w : World) (e : Ending) (w' : World) : Prop := e = .returned (.bool β) ∧ w' = w

theorem needTo_skip {pr sd sq : List Int} {p q c : Int} {k : Nat} (h : ¬ ((0 ≤ sd.getD k 0 ∧ pr.getD k 0 = p ∧ pr.getD (sd.getD k 0).toNat 0 = q) ∧ sq.getD k 0 ≤ c ∧ needTo pr sd sq p q c k < sq.getD (sd.getD k 0).toNat 0)) : needTo pr sd sq p q c (k + 1) = needTo pr sd sq p q c k := by
  show (if _ then _ else _) = _
  rw [if_neg h]
theorem needTo_take {pr sd sq : List Int} {p q c : Int} {k : Nat} (h : (0 ≤ sd.getD k 0 ∧ pr.getD k 0 = p ∧ pr.getD (sd.getD k 0).toNat 0 = q) ∧ sq.getD k 0 ≤ c ∧ needTo pr sd sq p q c k < sq.getD (sd.getD k 0).toNat 0) : needTo pr sd sq p q c (k + 1) = sq.getD (sd.getD k 0).toNat 0 := by
  show (if _ then _ else _) = _
  rw [if_pos h]

/-! ### zzHas -/
set_option maxHeartbeats 400000 in
theorem has_yes (a : Option Addr) (c : Nat) (zs : List Int) (x : Int) (w : World) (hz : zs.length ≤ 10000000) (hc : Ints w a zs) (hx : x ∈ zs) :
    Calls Try.prog 24 #[.slice a zs.length c, .int .i64 x] w (SaysY true w) := by
  obtain ⟨b, off, hix, hcell⟩ := ints_open hc
  have HX : Hid (∃ i, i < zs.length ∧ zs.getD i 0 = x) := by
    obtain ⟨i, hi, e⟩ := List.mem_iff_getElem.1 hx
    exact ⟨i, hi, by rw [List.getD_eq_getElem?_getD, List.getElem?_eq_getElem hi]; exact e⟩
  clear hc hx
  have HC : Hid (∀ j, j < zs.length → w.cell? ⟨b, off + j, none⟩ = some (.int .i64 (zs.getD j 0))) := hcell
  clear hcell
  go_enter Try.func24, Try.ntmps24
  go_wp2
  go_loop [5] (fun i => ∃ k : Nat, k ≤ zs.length ∧ i = .int .i64 k ∧ ∀ j, j < k → zs.getD j 0 ≠ x) (fun i => zs.length - (intOf i).toNat)
  case atStart => exact ⟨0, Nat.zero_le _, rfl, fun j hj => by omega⟩
  case round =>
    obtain ⟨k, hk, rfl, hall⟩ := hrel
    by_cases hlt : k < zs.length
    · have g1 := HC.out k hlt
      generalize hy : zs.getD k 0 = y at g1
      have HY : Hid (zs.getD k 0 = y) := hy
      clear hy
      by_cases e : y = x
      · subst e
        go_wp2
        go_ret
        exact ⟨rfl, rfl⟩
      · have eb : (y == x) = false := by simpa using e
        go_wp2
        go_round
        case rel =>
          refine ⟨k + 1, by omega, by go_num, fun j hj => ?_⟩
          by_cases e2 : j = k
          · subst e2; rw [HY.out]; exact e
          · exact hall j (by omega)
        case measure => simp [intOf]; omega
    · obtain ⟨i, hi, e⟩ := HX.out
      exact absurd e (hall i (by omega))

/-! ### zzLinkNeed -/
set_option maxHeartbeats 400000 in
theorem linkNeed_any (a0 a1 : Option Addr) (c0 c1 : Nat) (rc sn : List Int) (c : Int) (w : World) (hz : rc.length ≤ 10000000) (hl : rc.length = sn.length) (h0 : Ints w a0 rc) (h1 : Ints w a1 sn) :
    Calls Try.prog 40 #[.slice a0 rc.length c0, .slice a1 sn.length c1, .int .i64 c] w (SaysN (linkTo rc sn c rc.length) w) := by
  obtain ⟨b0, off0, hix0, hcell0⟩ := ints_open h0
  obtain ⟨b1, off1, hix1, hcell1⟩ := ints_open h1
  have HC0 : Hid (∀ j, j < rc.length → w.cell? ⟨b0, off0 + j, none⟩ = some (.int .i64 (rc.getD j 0))) := hcell0
  have HC1 : Hid (∀ j, j < sn.length → w.cell? ⟨b1, off1 + j, none⟩ = some (.int .i64 (sn.getD j 0))) := hcell1
  have HX0 : Hid (∀ (k : Nat) (w' : World), k < rc.length → (Instr.indexAt 23 (.slice a0 rc.length c0) (.int .i64 k)).run Try.prog w' = .ok (.pointer (some ⟨b0, off0 + k, none⟩)) w') := fun k w' h => hix0 c0 k w' h
  have HX1 : Hid (∀ (k : Nat) (w' : World), k < sn.length → (Instr.indexAt 23 (.slice a1 sn.length c1) (.int .i64 k)).run Try.prog w' = .ok (.pointer (some ⟨b1, off1 + k, none⟩)) w') := fun k w' h => hix1 c1 k w' h
  have HL : Hid (rc.length = sn.length) := hl
  clear hcell0 hcell1 hix0 hix1 h0 h1 hl
  go_enter Try.func40, Try.ntmps40
  go_wp2
  go_loop [7, 8] (fun m i => ∃ k : Nat, k ≤ rc.length ∧ i = .int .i64 k ∧ m = .int .i64 (linkTo rc sn c k)) (fun _ i => rc.length - (intOf i).toNat)
  case atStart => exact ⟨0, Nat.zero_le _, rfl, rfl⟩
  case round =>
    obtain ⟨k, hk, rfl, rfl⟩ := hrel
    by_cases hlt : k < rc.length
    · have g0 := HC0.out k hlt
      have g1 := HC1.out k (by rw [← HL.out]; exact hlt)
      have hx0 := fun w' => HX0.out k w' hlt
      have hx1 := fun w' => HX1.out k w' (by rw [← HL.out]; exact hlt)
      have HS : Hid (linkTo rc sn c (k + 1) = if rc.getD k 0 ≤ c ∧ linkTo rc sn c k < sn.getD k 0 then sn.getD k 0 else linkTo rc sn c k) := rfl
      generalize rc.getD k 0 = r at *
      generalize sn.getD k 0 = s at *
      generalize linkTo rc sn c k = m at *
      by_cases hr : r ≤ c
      · by_cases hm : m < s
        · have HV : Hid (linkTo rc sn c (k + 1) = s) := (by unfold Hid; rw [HS.out, if_pos ⟨hr, hm⟩])
          clear HS
          go_wp2
          go_round
          case rel => exact ⟨k + 1, by omega, by go_num, by rw [HV.out]⟩
          case measure => simp [intOf]; omega
        · have HV : Hid (linkTo rc sn c (k + 1) = m) := (by unfold Hid; rw [HS.out, if_neg (fun h => hm h.2)])
          clear HS
          go_wp2
          go_round
          case rel => exact ⟨k + 1, by omega, by go_num, by rw [HV.out]⟩
          case measure => simp [intOf]; omega
      · have HV : Hid (linkTo rc sn c (k + 1) = m) := (by unfold Hid; rw [HS.out, if_neg (fun h => hr h.1)])
        clear HS
        go_wp2
        go_round
        case rel => exact ⟨k + 1, by omega, by go_num, by rw [HV.out]⟩
        case measure => simp [intOf]; omega
    · have e : k = rc.length := by omega
      subst e
      go_wp2
      go_ret
      exact ⟨rfl, rfl⟩

/-! ### zzNeed -/
set_option maxHeartbeats 1000000 in
theorem need_any (a0 a1 a2 : Option Addr) (c0 c1 c2 : Nat) (pr sd sq : List Int) (n : Nat) (p q c : Int) (w : World) (hn : n ≤ 5000) (hpl : pr.length = n) (hS : Senders n sd) (hql : sq.length = n) (h0 : Ints w a0 pr) (h1 : Ints w a1 sd) (h2 : Ints w a2 sq) :
    Calls Try.prog 39 #[.slice a0 pr.length c0, .slice a1 sd.length c1, .slice a2 sq.length c2, .int .i64 p, .int .i64 q, .int .i64 c] w (SaysN (needTo pr sd sq p q c n) w) := by
  obtain ⟨b0, off0, hix0, hcell0⟩ := ints_open h0
  obtain ⟨b1, off1, hix1, hcell1⟩ := ints_open h1
  obtain ⟨b2, off2, hix2, hcell2⟩ := ints_open h2
  have hsl := hS.len
  rw [hpl] at hix0 hcell0
  rw [hsl] at hix1 hcell1
  rw [hql] at hix2 hcell2
  rw [hpl, hsl, hql]
  have HC0 : Hid (∀ j, j < n → w.cell? ⟨b0, off0 + j, none⟩ = some (.int .i64 (pr.getD j 0))) := hcell0
  have HC1 : Hid (∀ j, j < n → w.cell? ⟨b1, off1 + j, none⟩ = some (.int .i64 (sd.getD j 0))) := hcell1
  have HC2 : Hid (∀ j, j < n → w.cell? ⟨b2, off2 + j, none⟩ = some (.int .i64 (sq.getD j 0))) := hcell2
  have HX0 : Hid (∀ (k : Nat) (w' : World), k < n → (Instr.indexAt 23 (.slice a0 n c0) (.int .i64 k)).run Try.prog w' = .ok (.pointer (some ⟨b0, off0 + k, none⟩)) w') := fun k w' h => hix0 c0 k w' h
  have HX1 : Hid (∀ (k : Nat) (w' : World), k < n → (Instr.indexAt 23 (.slice a1 n c1) (.int .i64 k)).run Try.prog w' = .ok (.pointer (some ⟨b1, off1 + k, none⟩)) w') := fun k w' h => hix1 c1 k w' h
  have HX2 : Hid (∀ (k : Nat) (w' : World), k < n → (Instr.indexAt 23 (.slice a2 n c2) (.int .i64 k)).run Try.prog w' = .ok (.pointer (some ⟨b2, off2 + k, none⟩)) w') := fun k w' h => hix2 c2 k w' h
  have HSn : Hid (∀ j, j < n → sd.getD j 0 < n) := hS.lt
  clear hcell0 hcell1 hcell2 hix0 hix1 hix2 h0 h1 h2 hS hpl hql hsl
  go_enter Try.func39, Try.ntmps39
  go_wp2
  go_loop [13, 14] (fun m i => ∃ k : Nat, k ≤ n ∧ i = .int .i64 k ∧ m = .int .i64 (needTo pr sd sq p q c k)) (fun _ i => n - (intOf i).toNat)
  case atStart => exact ⟨0, Nat.zero_le _, rfl, rfl⟩
  case round =>
    obtain ⟨k, hk, rfl, rfl⟩ := hrel
    by_cases hlt : k < n
    · have g0 := HC0.out k hlt
      have g1 := HC1.out k hlt
      have g2 := HC2.out k hlt
      have hx0 := fun w' => HX0.out k w' hlt
      have hx1 := fun w' => HX1.out k w' hlt
      have hx2 := fun w' => HX2.out k w' hlt
      have HK : Hid (¬ ((0 ≤ sd.getD k 0 ∧ pr.getD k 0 = p ∧ pr.getD (sd.getD k 0).toNat 0 = q) ∧ sq.getD k 0 ≤ c ∧ needTo pr sd sq p q c k < sq.getD (sd.getD k 0).toNat 0) → needTo pr sd sq p q c (k + 1) = needTo pr sd sq p q c k) := needTo_skip
      have HT : Hid ((0 ≤ sd.getD k 0 ∧ pr.getD k 0 = p ∧ pr.getD (sd.getD k 0).toNat 0 = q) ∧ sq.getD k 0 ≤ c ∧ needTo pr sd sq p q c k < sq.getD (sd.getD k 0).toNat 0 → needTo pr sd sq p q c (k + 1) = sq.getD (sd.getD k 0).toNat 0) := needTo_take
      generalize hm : needTo pr sd sq p q c k = m at *
      clear hm
      by_cases h0 : 0 ≤ sd.getD k 0
      · obtain ⟨S, hSv⟩ : ∃ S : Nat, sd.getD k 0 = S := ⟨(sd.getD k 0).toNat, by omega⟩
        have hSn : S < n := by have := HSn.out k hlt; omega
        have g3 := HC0.out S hSn
        have g4 := HC2.out S hSn
        have hx3 := fun w' => HX0.out S w' hSn
        have hx4 := fun w' => HX2.out S w' hSn
        rw [hSv] at g1 HK HT
        rw [Int.toNat_natCast] at HK HT
        clear h0 hSv
        generalize pr.getD k 0 = P at *
        generalize pr.getD S 0 = Qv at *
        generalize sq.getD k 0 = r at *
        generalize sq.getD S 0 = x at *
        by_cases e1 : P = p
        · by_cases e2 : Qv = q
          · by_cases e3 : r ≤ c
            · by_cases e4 : m < x
              · have HV : Hid (needTo pr sd sq p q c (k + 1) = x) := HT.out ⟨⟨by omega, e1, e2⟩, e3, e4⟩
                clear HT HK
                subst e1 e2
                go_wp2
                go_round
                case rel => exact ⟨k + 1, by omega, by go_num, by rw [HV.out]⟩
                case measure => simp [intOf]; omega
              · have HV : Hid (needTo pr sd sq p q c (k + 1) = m) := HK.out (fun h => e4 h.2.2)
                clear HT HK
                subst e1 e2
                go_wp2
                go_round
                case rel => exact ⟨k + 1, by omega, by go_num, by rw [HV.out]⟩
                case measure => simp [intOf]; omega
            · have HV : Hid (needTo pr sd sq p q c (k + 1) = m) := HK.out (fun h => e3 h.2.1)
              clear HT HK
              subst e1 e2
              go_wp2
              go_round
              case rel => exact ⟨k + 1, by omega, by go_num, by rw [HV.out]⟩
              case measure => simp [intOf]; omega
          · have HV : Hid (needTo pr sd sq p q c (k + 1) = m) := HK.out (fun h => e2 h.1.2.2)
            have eb : (Qv == q) = false := by simpa using e2
            clear HT HK
            subst e1
            go_wp2
            go_round
            case rel => exact ⟨k + 1, by omega, by go_num, by rw [HV.out]⟩
            case measure => simp [intOf]; omega
        · have HV : Hid (needTo pr sd sq p q c (k + 1) = m) := HK.out (fun h => e1 h.1.2.1)
          have eb : (P == p) = false := by simpa using e1
          clear HT HK
          go_wp2
          go_round
          case rel => exact ⟨k + 1, by omega, by go_num, by rw [HV.out]⟩
          case measure => simp [intOf]; omega
      · have HV : Hid (needTo pr sd sq p q c (k + 1) = m) := HK.out (fun h => h0 h.1.1)
        clear HT HK
        generalize sd.getD k 0 = sv at *
        go_wp2
        go_round
        case rel => exact ⟨k + 1, by omega, by go_num, by rw [HV.out]⟩
        case measure => simp [intOf]; omega
    · have e : k = n := by omega
      subst e
      go_wp2
      go_ret
      exact ⟨rfl, rfl⟩

/-! ### zzTalk -/
set_option maxHeartbeats 1000000 in
theorem talk_yes (a0 a1 : Option Addr) (c0 c1 : Nat) (pr sd : List Int) (n : Nat) (p q : Int) (w : World) (hn : n ≤ 5000) (hpl : pr.length = n) (hS : Senders n sd) (h0 : Ints w a0 pr) (h1 : Ints w a1 sd) (hpq : p ≠ q) (hex : ∃ i, i < n ∧ (Pair pr sd i p q ∨ Pair pr sd i q p)) :
    Calls Try.prog 23 #[.slice a0 pr.length c0, .slice a1 sd.length c1, .int .i64 p, .int .i64 q] w (SaysY true w) := by
  obtain ⟨b0, off0, hix0, hcell0⟩ := ints_open h0
  obtain ⟨b1, off1, hix1, hcell1⟩ := ints_open h1
  have hsl := hS.len
  rw [hpl] at hix0 hcell0
  rw [hsl] at hix1 hcell1
  rw [hpl, hsl]
  have HC0 : Hid (∀ j, j < n → w.cell? ⟨b0, off0 + j, none⟩ = some (.int .i64 (pr.getD j 0))) := hcell0
  have HC1 : Hid (∀ j, j < n → w.cell? ⟨b1, off1 + j, none⟩ = some (.int .i64 (sd.getD j 0))) := hcell1
  have HX0 : Hid (∀ (k : Nat) (w' : World), k < n → (Instr.indexAt 23 (.slice a0 n c0) (.int .i64 k)).run Try.prog w' = .ok (.pointer (some ⟨b0, off0 + k, none⟩)) w') := fun k w' h => hix0 c0 k w' h
  have HX1 : Hid (∀ (k : Nat) (w' : World), k < n → (Instr.indexAt 23 (.slice a1 n c1) (.int .i64 k)).run Try.prog w' = .ok (.pointer (some ⟨b1, off1 + k, none⟩)) w') := fun k w' h => hix1 c1 k w' h
  have HSn : Hid (∀ j, j < n → sd.getD j 0 < n) := hS.lt
  have HE : Hid (∃ i, i < n ∧ (Pair pr sd i p q ∨ Pair pr sd i q p)) := hex
  have HPQ : Hid (p ≠ q) := hpq
  have hqpb : (q == p) = false := by simpa using fun e => hpq e.symm
  have hpqb : (p == q) = false := by simpa using hpq
  clear hcell0 hcell1 hix0 hix1 h0 h1 hS hpl hsl hex hpq
  go_enter Try.func23, Try.ntmps23
  go_wp2
  go_loop [9] (fun i => ∃ k : Nat, k ≤ n ∧ i = .int .i64 k ∧ ∀ j, j < k → ¬ (Pair pr sd j p q ∨ Pair pr sd j q p)) (fun i => n - (intOf i).toNat)
  case atStart => exact ⟨0, Nat.zero_le _, rfl, fun j hj => by omega⟩
  case round =>
    obtain ⟨k, hk, rfl, hall⟩ := hrel
    have HA : Hid (∀ j, j < k → ¬ (Pair pr sd j p q ∨ Pair pr sd j q p)) := hall
    clear hall
    by_cases hlt : k < n
    · have HN : Hid (¬ (Pair pr sd k p q ∨ Pair pr sd k q p) → ∀ j, j < k + 1 → ¬ (Pair pr sd j p q ∨ Pair pr sd j q p)) := fun h j hj => by
        by_cases e : j = k
        · subst e; exact h
        · exact HA.out j (by omega)
      have g0 := HC0.out k hlt
      have g1 := HC1.out k hlt
      have hx0 := fun w' => HX0.out k w' hlt
      have hx1 := fun w' => HX1.out k w' hlt
      by_cases h0 : 0 ≤ sd.getD k 0
      · obtain ⟨S, hSv⟩ : ∃ S : Nat, sd.getD k 0 = S := ⟨(sd.getD k 0).toNat, by omega⟩
        have hSn : S < n := by have := HSn.out k hlt; omega
        have g3 := HC0.out S hSn
        have hx3 := fun w' => HX0.out S w' hSn
        have HI1 : Hid (Pair pr sd k p q ↔ (0 ≤ sd.getD k 0 ∧ pr.getD k 0 = p ∧ pr.getD (sd.getD k 0).toNat 0 = q)) := pair_iff HPQ.out
        have HI2 : Hid (Pair pr sd k q p ↔ (0 ≤ sd.getD k 0 ∧ pr.getD k 0 = q ∧ pr.getD (sd.getD k 0).toNat 0 = p)) := pair_iff (fun e => HPQ.out e.symm)
        rw [hSv] at g1 HI1 HI2
        rw [Int.toNat_natCast] at HI1 HI2
        clear h0 hSv
        generalize pr.getD k 0 = A at *
        generalize pr.getD S 0 = B at *
        by_cases e1 : A = p
        · by_cases e2 : B = q
          · subst e1 e2
            have hab : (A != B) = true := by simpa using HPQ.out
            go_wp2
            go_ret
            exact ⟨rfl, rfl⟩
          · have HV : Hid (¬ (Pair pr sd k p q ∨ Pair pr sd k q p)) := (by
              rintro (h | h)
              · exact e2 (HI1.out.1 h).2.2
              · exact HPQ.out (e1.symm.trans (HI2.out.1 h).2.1))
            have eb : (B == q) = false := by simpa using e2
            clear HI1 HI2
            subst e1
            by_cases e3 : B = A
            · have hab : (A != B) = false := by simp [e3]
              go_wp2
              go_round
              case rel => exact ⟨k + 1, by omega, by go_num, HN.out HV.out⟩
              case measure => simp [intOf]; omega
            · have hab : (A != B) = true := by simpa using fun e => e3 e.symm
              go_wp2
              go_round
              case rel => exact ⟨k + 1, by omega, by go_num, HN.out HV.out⟩
              case measure => simp [intOf]; omega
        · have eb1 : (A == p) = false := by simpa using e1
          by_cases e2 : A = q
          · by_cases e3 : B = p
            · subst e2 e3
              have hab : (A != B) = true := by simpa using fun e => HPQ.out e.symm
              go_wp2
              go_ret
              exact ⟨rfl, rfl⟩
            · have HV : Hid (¬ (Pair pr sd k p q ∨ Pair pr sd k q p)) := (by
                rintro (h | h)
                · exact e1 (HI1.out.1 h).2.1
                · exact e3 (HI2.out.1 h).2.2)
              have eb : (B == p) = false := by simpa using e3
              clear HI1 HI2
              subst e2
              by_cases e4 : B = A
              · have hab : (A != B) = false := by simp [e4]
                go_wp2
                go_round
                case rel => exact ⟨k + 1, by omega, by go_num, HN.out HV.out⟩
                case measure => simp [intOf]; omega
              · have hab : (A != B) = true := by simpa using fun e => e4 e.symm
                go_wp2
                go_round
                case rel => exact ⟨k + 1, by omega, by go_num, HN.out HV.out⟩
                case measure => simp [intOf]; omega
          · have HV : Hid (¬ (Pair pr sd k p q ∨ Pair pr sd k q p)) := (by
              rintro (h | h)
              · exact e1 (HI1.out.1 h).2.1
              · exact e2 (HI2.out.1 h).2.1)
            have eb2 : (A == q) = false := by simpa using e2
            clear HI1 HI2
            by_cases e4 : B = A
            · have hab : (A != B) = false := by simp [e4]
              go_wp2
              go_round
              case rel => exact ⟨k + 1, by omega, by go_num, HN.out HV.out⟩
              case measure => simp [intOf]; omega
            · have hab : (A != B) = true := by simpa using fun e => e4 e.symm
              go_wp2
              go_round
              case rel => exact ⟨k + 1, by omega, by go_num, HN.out HV.out⟩
              case measure => simp [intOf]; omega
      · have HV : Hid (¬ (Pair pr sd k p q ∨ Pair pr sd k q p)) := (by
          rintro (h | h)
          · exact h0 (of_decide_eq_true h.1).1
          · exact h0 (of_decide_eq_true h.1).1)
        generalize sd.getD k 0 = sv at *
        go_wp2
        go_round
        case rel => exact ⟨k + 1, by omega, by go_num, HN.out HV.out⟩
        case measure => simp [intOf]; omega
    · obtain ⟨i, hi, e⟩ := HE.out
      exact absurd e (HA.out i (by omega))

/-! ### zzEarlierPair -/
set_option maxHeartbeats 1000000 in
theorem earlier_any (a0 a1 : Option Addr) (c0 c1 : Nat) (pr sd : List Int) (n i : Nat) (w : World) (hn : n ≤ 5000) (hpl : pr.length = n) (hS : Senders n sd) (h0 : Ints w a0 pr) (h1 : Ints w a1 sd) (hi : i < n) (hcr : crossB pr sd i = true) :
    Calls Try.prog 25 #[.slice a0 pr.length c0, .slice a1 sd.length c1, .int .i64 i] w (SaysY (earlier pr sd i) w) := by
  obtain ⟨b0, off0, hix0, hcell0⟩ := ints_open h0
  obtain ⟨b1, off1, hix1, hcell1⟩ := ints_open h1
  have hsl := hS.len
  rw [hpl] at hix0 hcell0
  rw [hsl] at hix1 hcell1
  rw [hpl, hsl]
  have HC0 : Hid (∀ j, j < n → w.cell? ⟨b0, off0 + j, none⟩ = some (.int .i64 (pr.getD j 0))) := hcell0
  have HC1 : Hid (∀ j, j < n → w.cell? ⟨b1, off1 + j, none⟩ = some (.int .i64 (sd.getD j 0))) := hcell1
  have HX0 : Hid (∀ (k : Nat) (w' : World), k < n → (Instr.indexAt 23 (.slice a0 n c0) (.int .i64 k)).run Try.prog w' = .ok (.pointer (some ⟨b0, off0 + k, none⟩)) w') := fun k w' h => hix0 c0 k w' h
  have HX1 : Hid (∀ (k : Nat) (w' : World), k < n → (Instr.indexAt 23 (.slice a1 n c1) (.int .i64 k)).run Try.prog w' = .ok (.pointer (some ⟨b1, off1 + k, none⟩)) w') := fun k w' h => hix1 c1 k w' h
  have HSn : Hid (∀ j, j < n → sd.getD j 0 < n) := hS.lt
  have hPK : Pair pr sd i (pr.getD i 0) (sendP pr sd i) := ⟨hcr, rfl, rfl⟩
  have HNe : Hid (pr.getD i 0 ≠ sendP pr sd i) := hPK.ne
  have hs0 := (of_decide_eq_true hcr).1
  obtain ⟨Si, hSi⟩ : ∃ S : Nat, sd.getD i 0 = S := ⟨(sd.getD i 0).toNat, by omega⟩
  have hSin : Si < n := by have := hS.lt i hi; omega
  have gi0 := hcell0 i hi
  have gi1 := hcell1 i hi
  have gi2 := hcell0 Si hSin
  have hxi0 := fun w' => HX0.out i w' hi
  have hxi1 := fun w' => HX1.out i w' hi
  have hxi2 := fun w' => HX0.out Si w' hSin
  have HEI : Hid (earlier pr sd i = true ↔ ∃ j, j < i ∧ Pair pr sd j (pr.getD i 0) (sendP pr sd i)) := earlier_iff pr sd i
  have es : sendP pr sd i = pr.getD Si 0 := by unfold sendP; rw [hSi, Int.toNat_natCast]
  rw [es] at HEI HNe
  rw [hSi] at gi1
  generalize pr.getD i 0 = P at *
  generalize pr.getD Si 0 = Q at *
  clear hcell0 hcell1 hix0 hix1 h0 h1 hS hpl hsl hcr hPK hs0 hSi es
  go_enter Try.func25, Try.ntmps25
  go_wp2
  go_loop [9] (fun v => ∃ k : Nat, k ≤ i ∧ v = .int .i64 k ∧ ∀ j, j < k → ¬ Pair pr sd j P Q) (fun v => i - (intOf v).toNat)
  case atStart => exact ⟨0, Nat.zero_le _, rfl, fun j hj => by omega⟩
  case round =>
    obtain ⟨k, hk, rfl, hall⟩ := hrel
    have HA : Hid (∀ j, j < k → ¬ Pair pr sd j P Q) := hall
    clear hall gi0 gi1 gi2 hxi0 hxi1 hxi2
    by_cases hlt : k < i
    · have hkn : k < n := by omega
      have HN : Hid (¬ Pair pr sd k P Q → ∀ j, j < k + 1 → ¬ Pair pr sd j P Q) := fun h j hj => by
        by_cases e : j = k
        · subst e; exact h
        · exact HA.out j (by omega)
      have HI1 : Hid (Pair pr sd k P Q ↔ (0 ≤ sd.getD k 0 ∧ pr.getD k 0 = P ∧ pr.getD (sd.getD k 0).toNat 0 = Q)) := pair_iff HNe.out
      have g0 := HC0.out k hkn
      have g1 := HC1.out k hkn
      have hx0 := fun w' => HX0.out k w' hkn
      have hx1 := fun w' => HX1.out k w' hkn
      by_cases h0 : 0 ≤ sd.getD k 0
      · obtain ⟨S, hSv⟩ : ∃ S : Nat, sd.getD k 0 = S := ⟨(sd.getD k 0).toNat, by omega⟩
        have hSn : S < n := by have := HSn.out k hkn; omega
        have g3 := HC0.out S hSn
        have hx3 := fun w' => HX0.out S w' hSn
        rw [hSv] at g1 HI1
        rw [Int.toNat_natCast] at HI1
        clear h0 hSv
        generalize pr.getD k 0 = A at *
        generalize pr.getD S 0 = B at *
        by_cases e1 : A = P
        · by_cases e2 : B = Q
          · have HV : Hid (earlier pr sd i = true) := HEI.out.2 ⟨k, hlt, HI1.out.2 ⟨by omega, e1, e2⟩⟩
            clear HI1 HN HEI
            subst e1 e2
            go_wp2
            go_ret
            exact ⟨by rw [HV.out]; rfl, rfl⟩
          · have HV : Hid (¬ Pair pr sd k P Q) := fun h => e2 (HI1.out.1 h).2.2
            have eb : (B == Q) = false := by simpa using e2
            clear HI1
            subst e1
            go_wp2
            go_round
            case rel => exact ⟨k + 1, by omega, by go_num, HN.out HV.out⟩
            case measure => simp [intOf]; omega
        · have HV : Hid (¬ Pair pr sd k P Q) := fun h => e1 (HI1.out.1 h).2.1
          have eb : (A == P) = false := by simpa using e1
          clear HI1
          go_wp2
          go_round
          case rel => exact ⟨k + 1, by omega, by go_num, HN.out HV.out⟩
          case measure => simp [intOf]; omega
      · have HV : Hid (¬ Pair pr sd k P Q) := fun h => h0 (HI1.out.1 h).1
        clear HI1
        generalize sd.getD k 0 = sv at *
        go_wp2
        go_round
        case rel => exact ⟨k + 1, by omega, by go_num, HN.out HV.out⟩
        case measure => simp [intOf]; omega
    · have HV : Hid (earlier pr sd i = false) := (by
        unfold Hid
        cases he : earlier pr sd i with
        | false => rfl
        | true =>
          obtain ⟨j, hj, h⟩ := HEI.out.1 he
          exact absurd h (HA.out j (by omega)))
      go_wp2
      go_ret
      exact ⟨by rw [HV.out]; rfl, rfl⟩
end Go.Proofs.Qxb6603214a
