import Derived.Test.Qxb6604382aLaw4
namespace Go.Proofs.Qxb6604382a
open Go.RowKit
set_option linter.unusedVariables false

/-- A clone of a slice of bools, a clone of a slice of slices of bytes: what is used of them. -/
def BMade (n : Nat) (w : World) (e : Ending) (w' : World) : Prop := ∃ a c bs, e = .returned (.slice a n c) ∧ bs.length = n ∧ Row 0 w' a bs ∧ (∀ j, j < n → ∃ β, bs.getD j undef = .bool β) ∧ Below w.heap.size w w'
def VMade (n : Nat) (w : World) (e : Ending) (w' : World) : Prop := ∃ a c vs, e = .returned (.slice a n c) ∧ vs.length = n ∧ Row 0 w' a vs ∧ (∀ j, j < n → ∃ a m c, vs.getD j undef = .slice a m c) ∧ Below w.heap.size w w'
theorem clone8_arg {w : World} {a : Option Addr} {c : Nat} {bs : List Bool} (hr : Row 0 w a (bs.map Value.bool)) (hn : a = none → bs.map Value.bool = [] ∧ c = 0) (hz : bs.length ≤ 10000000) :
    Calls Try.prog 8 #[.slice a bs.length c] w (BMade bs.length w) := by
  have hl : (bs.map Value.bool).length = bs.length := by simp
  refine (clone8_any (.slice a bs.length c) (bs.map Value.bool) w 0 (by rw [hl]; exact hz) (fun j hj => shape_map _ _ _ hj) ⟨a, c, by rw [hl], hn, hr⟩).mono ?_
  rintro e w' ⟨v, rfl, hown, hb⟩
  obtain ⟨a', c', rfl, hn', hr'⟩ := hown.is
  exact ⟨a', c', _, by rw [hl], hl, hr'.mono (Nat.zero_le _), fun j hj => shape_map _ _ _ (by rw [hl]; exact hj), hb⟩
theorem clone9_arg {w : World} {a : Option Addr} {c : Nat} {us : List Value} {cs : List (List Int)} (h : ArgL .u8 w a c us cs) (hz : us.length ≤ 10000000) (hlen : ∀ j, j < us.length → (cs.getD j []).length ≤ 10000000) :
    Calls Try.prog 9 #[.slice a us.length c] w (VMade us.length w) := by
  refine (clone9_any (.slice a us.length c) us (cs.map (·.map (Value.int .u8))) w 0 hz (by simpa using h.cl) ⟨a, c, rfl, h.nil, h.row⟩ ?_ ?_ ?_).mono ?_
  · intro i hi j hj
    rw [getD_map_map] at hj ⊢
    exact shape_map _ _ _ hj
  · intro i hi
    rw [getD_map_map, List.length_map]
    exact hlen i hi
  · intro i hi
    rw [getD_map_map]
    exact (h.each i hi).1
  · rintro e w' ⟨v, us', rfl, hl, hown, hin, hb⟩
    obtain ⟨a', c', rfl, _, hr⟩ := hown.is
    have hcl := h.cl
    have hl' : us'.length = us.length := by rw [hl]; simpa using hcl
    refine ⟨a', c', us', by rw [hl'], hl', hr.mono (Nat.zero_le _), fun j hj => ?_, hb⟩
    obtain ⟨a2, c2, hv, _⟩ := hin j (by simpa [hcl] using hj)
    exact ⟨a2, _, c2, hv⟩

/-- Some of the first k is ys. -/
def anyTo (cs : List (List Int)) (ys : List Int) (k : Nat) : Bool := (cs.take k).any (· == ys)
theorem anyTo_succ (cs : List (List Int)) (ys : List Int) (k : Nat) (hk : k < cs.length) : anyTo cs ys (k + 1) = (anyTo cs ys k || (cs.getD k [] == ys)) := by
  unfold anyTo
  rw [List.take_add_one, List.any_append]
  simp [hk]
theorem anyTo_all (cs : List (List Int)) (ys : List Int) : anyTo cs ys cs.length = cs.any (· == ys) := by
  unfold anyTo
  rw [List.take_of_length_le (Nat.le_refl _)]
theorem rev_get {α : Type} (vs : List α) (d : α) (j : Nat) (hj : j < vs.length) : vs.reverse.getD j d = vs.getD (vs.length - 1 - j) d := by
  simp [List.getD_eq_getElem?_getD, List.getElem?_reverse hj]

/-- The first k of xs laid from the end. -/
def revTo (xs : List Value) (n k : Nat) : List Value := List.replicate (n - k) (.slice none 0 0) ++ (xs.take k).reverse
theorem revTo_len (xs : List Value) (n k : Nat) (hn : xs.length = n) (hk : k ≤ n) : (revTo xs n k).length = n := by
  unfold revTo
  simp
  omega
theorem revTo_succ (xs : List Value) (n k : Nat) (hn : xs.length = n) (hk : k < n) : (revTo xs n k).set (n - 1 - k) (xs.getD k undef) = revTo xs n (k + 1) := by
  unfold revTo
  rw [show n - k = (n - (k + 1)) + 1 by omega, List.replicate_succ', List.append_assoc, List.set_append_right _ _ (by simp; omega), List.length_replicate, show n - 1 - k - (n - (k + 1)) = 0 by omega,
    List.singleton_append, List.set_cons_zero, List.take_add_one, List.reverse_append]
  simp [hn, hk]

set_option maxHeartbeats 2000000 in
set_option maxRecDepth 20000 in
theorem law3_walk (a0 a1 a2 a3 : Option Addr) (c0 c1 c2 c3 : Nat) (us : List Value) (cs : List (List Int)) (bs : List Bool) (vs : List Value) (ds : List (List Int)) (ys : List Int) (w : World)
    (h0 : ArgL .i64 w a0 c0 us cs) (h1 : ArgR w a1 c1 (bs.map Value.bool)) (h2 : ArgL .u8 w a2 c2 vs ds) (h3 : ArgR w a3 c3 (ivs ys)) :
    Calls Try.prog 3 #[.slice a0 us.length c0, .slice a1 bs.length c1, .slice a2 vs.length c2, .slice a3 ys.length c3] w (LawTrue w) := by
  have b0 := h0.len
  have b1 := h1.len
  have b2 := h2.len
  have b3 := h3.len
  rw [ivs_len] at b3
  rw [List.length_map] at b1
  have hb5 := bytes5 a0 a1 a2 a3 c0 c1 c2 c3 bs.length ys.length us vs _ _ w 0 b0 b1 b2 b3 h0.row h0.lens h2.row h2.lens
  have hw6 := within6 a0 a1 a2 a3 c0 c1 c2 c3 bs.length ys.length us vs _ _ w 0 b0 b1 b2 b3 h0.row h0.lens h2.row h2.lens
  have H0 : Hid (ArgL .i64 w a0 c0 us cs) := h0
  have H1 : Hid (ArgR w a1 c1 (bs.map Value.bool)) := h1
  have H2 : Hid (ArgL .u8 w a2 c2 vs ds) := h2
  have H3 : Hid (ArgR w a3 c3 (ivs ys)) := h3
  clear h0 h1 h2 h3
  unfold maxLen at b0 b1 b2 b3
  go_enter Try.func3, Try.ntmps3
  go_wp2_with fail
  refine hb5.mono ?_
  rintro e w' ⟨β, rfl, _, rfl⟩
  cases β with
  | false =>
    go_wp2
    go_ret
    exact LawTrue.mk _ rfl (Below.refl _ _)
  | true =>
  go_wp2_with fail
  refine hw6.mono ?_
  rintro e w'' ⟨β, rfl, hfit, rfl⟩
  clear hb5 hw6
  cases β with
  | false =>
    go_wp2
    go_ret
    exact LawTrue.mk _ rfl (Below.refl _ _)
  | true =>
  have HF := hfit rfl
  clear hfit
  have f0 := HF.l0
  have f1 := HF.l1
  have f2 := HF.l2
  have f3 := HF.l3
  have HFe : Hid (∀ j, j < us.length → (cs.getD j []).length ≤ 1048576) := HF.e0
  have HFv : Hid (∀ j, j < vs.length → (ds.getD j []).length ≤ 1048576) := HF.e2
  clear HF
  go_wp2_with fail
  refine (clone7_arg H0.out (by omega) (fun j hj => by have := HFe.out j hj; omega)).mono ?_
  rintro e w1 ⟨p0, k0, xs, rfl, hxl, hxr, hxin, hbel1⟩
  go_wp2_with fail
  refine (clone8_arg (H1.out.row.below hbel1) H1.out.nil (by omega)).mono ?_
  rintro e w2 ⟨p1, k1, bs', rfl, hbl, hbr, hbb, hbel2⟩
  have hb12 := hbel1.trans (hbel2.mono hbel1.size)
  have H2' : ArgL .u8 w2 a2 c2 vs ds := ⟨H2.out.row.below hb12, H2.out.nil, H2.out.cl, fun j hj => ⟨(H2.out.each j hj).1.below hb12, (H2.out.each j hj).2⟩, H2.out.len⟩
  go_wp2_with fail
  refine (clone9_arg H2' (by omega) (fun j hj => by have := HFv.out j hj; omega)).mono ?_
  rintro e w3 ⟨p2, k2, vs', rfl, hvl, hvr, hvv, hbel3⟩
  have hb13 := hb12.trans (hbel3.mono hb12.size)
  go_wp2_with fail
  refine (clone10_arg (H3.out.row.below hb13) H3.out.nil (by omega)).mono ?_
  rintro e w4 ⟨p3, k3, rfl, hir, hin3, hbel4⟩
  have hb14 := hb13.trans (hbel4.mono hb13.size)
  have hb24 : Below w1.heap.size w1 w4 := hbel2.trans ((hbel3.trans (hbel4.mono hbel3.size)).mono hbel2.size)
  have hb34 : Below w2.heap.size w2 w4 := hbel3.trans (hbel4.mono hbel3.size)
  have hx4 := hxr.below hb24
  have hxin4 := fun j hj => (hxin j hj).below hb24
  have hbr4 := hbr.below hb34
  have hvr4 := hvr.below hbel4
  clear hxr hxin hbr hvr hbel1 hbel2 hbel3 hbel4 hb12 hb13 hb24 hb34 H2'
  obtain ⟨b, off, hix, hcell, _⟩ := row_open hx4 Try.underlying22 Try.info25
  rw [hxl] at hix hcell
  have HC : Hid (∀ j, j < us.length → w4.cell? ⟨b, off + j, none⟩ = some (xs.getD j undef)) := hcell
  have HX : Hid (Row 0 w4 p0 xs) := hx4
  have HXI : Hid (∀ j, j < us.length → IsI 0 w4 (xs.getD j undef) (cs.getD j [])) := hxin4
  have HXL : Hid (xs.length = us.length) := hxl
  have HI : Hid (Row 0 w4 p3 (ivs ys)) := hir
  have HIn : Hid (p3 = none → ivs ys = [] ∧ k3 = 0) := hin3
  have HB4 : Hid (Below w''.heap.size w'' w4) := hb14
  have HCL : Hid (cs.length = us.length) := H0.out.cl
  have HLn : Hid (∀ j, j < us.length → (cs.getD j []).length ≤ 10000000) := (fun j hj => by have := HFe.out j hj; omega)
  have hbsl : bs'.length = bs.length := hbl
  have hvsl : vs'.length = vs.length := hvl
  have hcall := fun w' (hb : Below w4.heap.size w4 w') => has12 xs bs' vs' p0 p1 p2 p3 k0 k1 k2 k3 cs ys w' 0 0 (by omega) (by omega) (by omega) (by omega) (by rw [hxl]; exact HCL.out) (by rw [hxl]; exact HLn.out) (hx4.below hb) (hbr4.below hb) (hvr4.below hb) (hir.below hb) (by rw [hxl]; exact fun j hj => (hxin4 j hj).below hb) (by rw [hbl]; exact hbb) (by rw [hvl]; exact hvv)
  rw [hxl, hbl, hvl] at hcall
  have HCall : Hid (∀ w', Below w4.heap.size w4 w' → Calls Try.prog 12 #[.slice p0 us.length k0, .slice p1 bs.length k1, .slice p2 vs.length k2, .slice p3 ys.length k3] w' (SaysB (cs.any (· == ys)) w')) := hcall
  clear hcall hcell hx4 hxin4 hxl hir hin3 hb14 hbr4 hvr4 hbb hvv hbl hvl hbsl hvsl H0 H1 H2 H3 HFe HFv
  go_wp2
  go_loopw [9, 10] (fun t i wr => ∃ k : Nat, k ≤ us.length ∧ i = .int .i64 k ∧ t = .bool (anyTo cs ys k) ∧ Below w4.heap.size w4 wr) (fun _ i _ => us.length - (intOf i).toNat)
  case atStart => exact ⟨0, Nat.zero_le _, rfl, rfl, Below.refl _ _⟩
  case round =>
    obtain ⟨k, hk, rfl, rfl, hbel⟩ := hrel
    by_cases hlt : k < us.length
    · have g1 : wr.cell? ⟨b, off + k, none⟩ = some (xs.getD k undef) := cell_later hbel (HC.out k hlt)
      obtain ⟨ua, uc, hv, _, hrw⟩ := (HXI.out k hlt).below hbel
      rw [hv, ivs_len] at g1
      have hcall := same11 ua p3 uc k3 (cs.getD k []) ys wr 0 0 (HLn.out k hlt) (by omega) hrw (HI.out.below hbel)
      have HA : Hid (anyTo cs ys (k + 1) = (anyTo cs ys k || (cs.getD k [] == ys))) := anyTo_succ cs ys k (by rw [HCL.out]; exact hlt)
      clear hv hrw
      generalize hm : (cs.getD k [] == ys) = m at *
      generalize (cs.getD k []).length = un at *
      generalize anyTo cs ys k = A at *
      go_wp2_with fail
      refine hcall.mono ?_
      rintro en w5 ⟨rfl, hb5⟩
      cases m with
      | true =>
        go_wp2
        go_roundw
        case rel => exact ⟨k + 1, hlt, by go_num, by rw [HA.out]; simp, hbel.trans (hb5.mono hbel.size)⟩
        case measure => simp [intOf]; omega
      | false =>
        go_wp2
        go_roundw
        case rel => exact ⟨k + 1, hlt, by go_num, by rw [HA.out]; simp, hbel.trans (hb5.mono hbel.size)⟩
        case measure => simp [intOf]; omega
    · have e : k = us.length := by omega
      subst e
      have hA : anyTo cs ys us.length = cs.any (· == ys) := by rw [← HCL.out]; exact anyTo_all cs ys
      rw [hA]
      have hcall := HCall.out wr hbel
      clear HCall
      have HAO : Hid (anyTo cs ys us.length = cs.any (· == ys)) := hA
      clear hA
      have hrev0 : cs.reverse.any (· == ys) = cs.any (· == ys) := List.any_reverse
      have HREV : Hid (cs.reverse.any (· == ys) = cs.any (· == ys)) := hrev0
      clear hrev0
      generalize hAdef : cs.any (· == ys) = A at *
      have HAD : Hid (cs.any (· == ys) = A) := hAdef
      clear hAdef
      go_wp2_with fail
      refine hcall.mono ?_
      rintro en w5 ⟨rfl, hb5⟩
      have hbel5 : Below w4.heap.size w4 w5 := hbel.trans (hb5.mono hbel.size)
      have hAA : (A != A) = false := by simp
      have hEE : (A == A) = true := by simp
      clear hcall hbel hb5
      have hc2 := has12_bare xs p0 p3 k0 k3 us.length ys.length cs ys w5 HXL.out rfl (by omega) (by omega) HCL.out HLn.out (HX.out.below hbel5) (HI.out.below hbel5) (fun j hj => (HXI.out j hj).below hbel5)
      rw [HAD.out] at hc2
      go_wp2_with fail
      refine hc2.mono ?_
      rintro en w6 ⟨rfl, hb6⟩
      have hbel6 : Below w4.heap.size w4 w6 := hbel5.trans (hb6.mono hbel5.size)
      clear hc2 hbel5 hb6
      have HBel6 : Hid (Below w4.heap.size w4 w6) := hbel6
      have hmk : ∀ w, (Instr.makeSlice 22 (.int .i64 us.length) (.int .i64 us.length)).run Try.prog w = .ok (.slice (some ⟨w.heap.size, 0, none⟩) us.length us.length) (w.alloc (.cells (Array.replicate us.length (.slice none 0 0)) 25)) :=
        fun w => make_one Try.underlying22 Try.info25 rfl us.length (by omega) (by omega) w
      have hixR : ∀ (k : Nat) (w' : World), k < us.length → (Instr.indexAt 22 (.slice (some ⟨w6.heap.size, 0, none⟩) us.length us.length) (.int .i64 k)).run Try.prog w' = .ok (.pointer (some ⟨w6.heap.size, k, none⟩)) w' :=
        fun k w' hk => by simpa using indexAt_one Try.underlying22 Try.info25 w6.heap.size 0 _ us.length k hk w'
      clear hbel6
      go_wp2
      go_loopw [13] (fun i wr => ∃ k : Nat, k ≤ us.length ∧ i = .int .i64 k ∧ Arr wr w6.heap.size 25 (revTo xs us.length k) ∧ Below w6.heap.size w6 wr) (fun i _ => us.length - (intOf i).toNat)
      case atStart =>
        refine ⟨0, Nat.zero_le _, rfl, ?_, (Below.refl _ _).alloc (Nat.le_refl _) _⟩
        have := Arr.new w6 (Array.replicate us.length (Value.slice none 0 0)) 25
        rw [Array.toList_replicate] at this
        simpa [revTo] using this
      case round =>
        obtain ⟨k, hk, rfl, harr, hbel⟩ := hrel
        by_cases hlt : k < us.length
        · have g1 : wr.cell? ⟨b, off + k, none⟩ = some (xs.getD k undef) := cell_later hbel (cell_later HBel6.out (HC.out k hlt))
          obtain ⟨u, g2⟩ := harr.some (us.length - 1 - k) (by rw [revTo_len _ _ _ HXL.out hk]; omega)
          have g3 := harr.frozen (us.length - 1 - k)
          have hset := harr.set (us.length - 1 - k) (xs.getD k undef)
          rw [revTo_succ xs us.length k HXL.out hlt] at hset
          obtain ⟨ua, uc, hv, _⟩ := HXI.out k hlt
          rw [hv] at g1 hset
          clear hv harr
          generalize (ivs (cs.getD k [])).length = un at *
          have hixk := fun w' => hixR (us.length - 1 - k) w' (by omega)
          have ecast : ((us.length - 1 - k : Nat) : Int) = (us.length : Int) - 1 - k := by omega
          rw [ecast] at hixk
          have hix0 := fun w' => hix k0 k w' hlt
          clear hixR hix ecast
          generalize hq : us.length - 1 - k = q at *
          go_wp2
          go_roundw
          case rel => exact ⟨k + 1, hlt, by go_num, hset, hbel.setCell (Nat.le_refl _) _⟩
          case measure => simp [intOf]; omega
        · have e : k = us.length := by omega
          subst e
          have hrv : revTo xs us.length us.length = xs.reverse := by
            unfold revTo
            rw [Nat.sub_self, List.replicate_zero, List.nil_append, List.take_of_length_le (by rw [HXL.out]; exact Nat.le_refl _)]
          rw [hrv] at harr
          have hbelR : Below w4.heap.size w4 wr := HBel6.out.trans (hbel.mono HBel6.out.size)
          have hcc : cs.reverse.length = us.length := by rw [List.length_reverse]; exact HCL.out
          have hc3 := has12_bare xs.reverse (some ⟨w6.heap.size, 0, none⟩) p3 us.length k3 us.length ys.length cs.reverse ys wr (by rw [List.length_reverse]; exact HXL.out) rfl (by omega) (by omega) hcc
            (fun j hj => by rw [rev_get cs [] j (by rw [HCL.out]; exact hj), HCL.out]; exact HLn.out _ (by omega)) (harr.row.mono (Nat.zero_le _)) (HI.out.below hbelR)
            (fun j hj => by rw [rev_get cs [] j (by rw [HCL.out]; exact hj), HCL.out, rev_get xs undef j (by rw [HXL.out]; exact hj), HXL.out]; exact (HXI.out _ (by omega)).below hbelR)
          rw [HREV.out] at hc3
          clear harr hcc hixR hrv
          go_wp2_with fail
          refine hc3.mono ?_
          rintro en w7 ⟨rfl, hb7⟩
          have hbel7 : Below w4.heap.size w4 w7 := hbelR.trans (hb7.mono hbelR.size)
          clear hc3 hbelR hb7 hbel HBel6
          have HB7 : Hid (Below w4.heap.size w4 w7) := hbel7
          clear hbel7
          go_wp2
          go_loopw [14, 15] (fun t i wr => ∃ k : Nat, k ≤ us.length ∧ i = .int .i64 k ∧ t = .bool (anyTo cs ys k) ∧ Below w4.heap.size w4 wr) (fun _ i _ => us.length - (intOf i).toNat)
          case atStart => exact ⟨0, Nat.zero_le _, rfl, rfl, HB7.out⟩
          case round =>
            obtain ⟨k, hk, rfl, rfl, hbel⟩ := hrel
            by_cases hlt : k < us.length
            · have g1 : wr.cell? ⟨b, off + k, none⟩ = some (xs.getD k undef) := cell_later hbel (HC.out k hlt)
              have hXk := (HXI.out k hlt).below hbel
              have ha := fun o => (Below.refl wr.heap.size wr).alloc (Nat.le_refl _) o
              have hcall := has12_one wr.heap.size (xs.getD k undef) p3 k3 ys.length (cs.getD k []) ys (wr.alloc (.cells #[xs.getD k undef] 25)) rfl (by omega) (HLn.out k hlt) (Arr.new wr _ 25) (hXk.below (ha _)) ((HI.out.below hbel).below (ha _))
              obtain ⟨ua, uc, hv, _⟩ := hXk
              rw [hv] at g1 hcall
              have HA : Hid (anyTo cs ys (k + 1) = (anyTo cs ys k || (cs.getD k [] == ys))) := anyTo_succ cs ys k (by rw [HCL.out]; exact hlt)
              clear hv
              generalize hm : (cs.getD k [] == ys) = m at *
              generalize (ivs (cs.getD k [])).length = un at *
              generalize anyTo cs ys k = A' at *
              go_wp2_with fail
              refine hcall.mono ?_
              rintro en w8 ⟨rfl, hb8⟩
              have hb8' : Below w4.heap.size w4 w8 := hbel.trans (((ha _).trans (hb8.mono (by simp))).mono hbel.size)
              cases m with
              | true =>
                go_wp2
                go_roundw
                case rel => exact ⟨k + 1, hlt, by go_num, by rw [HA.out]; simp, hb8'⟩
                case measure => simp [intOf]; omega
              | false =>
                go_wp2
                go_roundw
                case rel => exact ⟨k + 1, hlt, by go_num, by rw [HA.out]; simp, hb8'⟩
                case measure => simp [intOf]; omega
            · have e : k = us.length := by omega
              subst e
              rw [HAO.out]
              go_wp2
              go_ret
              exact LawTrue.mk _ (by simp) (HB4.out.trans (hbel.mono HB4.out.size))
end Go.Proofs.Qxb6604382a
