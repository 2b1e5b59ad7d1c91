import Derived.Test.Qxb6604382aHas
import Derived.Laws.Tables
namespace Go.Proofs.Qxb6604382a
open Go.RowKit
set_option linter.unusedVariables false

/-- 'make([]pkix.Extension, n)'. -/
theorem make_exts (n : Nat) (hn : n ≤ 10000000) (w : World) :
    (Instr.makeSlice 35 (.int .i64 n) (.int .i64 n)).run Try.prog w = .ok (.slice (some ⟨w.heap.size, 0, none⟩) n n) (w.alloc (.cells (madeCells #[.slice none 0 0, .bool false, .slice none 0 0] (n * 3)) 38)) := by
  obtain ⟨i, hi, hz0, hz1, hz2⟩ := info_parts Try.info38
  have := run_make (P := Try.prog) w 35 38 i _ Try.underlying35 hi hz0 .i64 .i64 n n (by omega) (by omega) (by rw [hz2]; omega) (by omega)
  rw [this]
  simp [hz1, Value.cells]

theorem Exts.made (w : World) (n : Nat) : Exts (w.alloc (.cells (madeCells #[.slice none 0 0, .bool false, .slice none 0 0] (n * 3)) 38)) w.heap.size n (List.replicate n (.slice none 0 0)) := by
  refine ⟨by simp, _, Arr.new w _ 38, by simp [madeCells]; omega, fun j hj => ?_, fun j hj => ⟨false, ?_⟩, fun j hj => ⟨none, 0, 0, ?_⟩⟩
  · have e : 3 * j % 3 = 0 := by omega
    have h3 : 3 * j < n * 3 := by omega
    simp [madeCells, h3, e, hj]
  · have e : (3 * j + 1) % 3 = 1 := by omega
    have h3 : 3 * j + 1 < n * 3 := by omega
    simp [madeCells, h3, e]
  · have e : (3 * j + 2) % 3 = 2 := by omega
    have h3 : 3 * j + 2 < n * 3 := by omega
    simp [madeCells, h3, e]

section
variable {w : World} {X n : Nat} {us : List Value}
theorem Exts.frozen (h : Exts w X n us) (j : Nat) : w.frozen? ⟨X, j, none⟩ = false := by
  obtain ⟨cur, ha, _⟩ := h.arr
  exact ha.frozen j
theorem Exts.setId (h : Exts w X n us) (k : Nat) (hk : k < n) (v : Value) : Exts (w.setCell ⟨X, 3 * k, none⟩ v) X n (us.set k v) := by
  obtain ⟨cur, ha, hl, h1, h2, h3⟩ := h.arr
  have hul := h.ul
  refine ⟨by simpa using hul, _, ha.set _ v, by simpa using hl, fun j hj => ?_, fun j hj => ?_, fun j hj => ?_⟩
  · by_cases e : j = k
    · subst e
      rw [List.getElem?_set_self (by omega)]
      simp [hul, hk]
    · rw [List.getElem?_set_ne (by omega), h1 j hj]
      simp [List.getElem?_set_ne (show k ≠ j by omega)]
  · rw [List.getElem?_set_ne (by omega)]; exact h2 j hj
  · rw [List.getElem?_set_ne (by omega)]; exact h3 j hj
theorem Exts.setCrit (h : Exts w X n us) (k : Nat) (hk : k < n) (β : Bool) : Exts (w.setCell ⟨X, 3 * k + 1, none⟩ (.bool β)) X n us := by
  obtain ⟨cur, ha, hl, h1, h2, h3⟩ := h.arr
  refine ⟨h.ul, _, ha.set _ _, by simpa using hl, fun j hj => ?_, fun j hj => ?_, fun j hj => ?_⟩
  · rw [List.getElem?_set_ne (by omega)]; exact h1 j hj
  · by_cases e : j = k
    · subst e
      rw [List.getElem?_set_self (by omega)]
      exact ⟨β, rfl⟩
    · rw [List.getElem?_set_ne (by omega)]; exact h2 j hj
  · rw [List.getElem?_set_ne (by omega)]; exact h3 j hj
theorem Exts.setVal (h : Exts w X n us) (k : Nat) (hk : k < n) (a : Option Addr) (m c : Nat) : Exts (w.setCell ⟨X, 3 * k + 2, none⟩ (.slice a m c)) X n us := by
  obtain ⟨cur, ha, hl, h1, h2, h3⟩ := h.arr
  refine ⟨h.ul, _, ha.set _ _, by simpa using hl, fun j hj => ?_, fun j hj => ?_, fun j hj => ?_⟩
  · rw [List.getElem?_set_ne (by omega)]; exact h1 j hj
  · rw [List.getElem?_set_ne (by omega)]; exact h2 j hj
  · by_cases e : j = k
    · subst e
      rw [List.getElem?_set_self (by omega)]
      exact ⟨a, m, c, rfl⟩
    · rw [List.getElem?_set_ne (by omega)]; exact h3 j hj
end

theorem built61 (a : Option Addr) (n c : Nat) : ((Try.prog.built 61 [(17, .slice a n c)]).bind (fun cs => cs[41]?)) = some (.slice a n c) := by kernel_rfl
theorem wp_build61 {o : Oper} {a : Act} {w : World} {K : Act → World → Prop} {Q : Exit → Act → World → Prop} (x : Operand) (ho : o.op = .build 61 #[(17, x)]) (b : Option Addr) (n c : Nat) (hx : a.eval x = .slice b n c)
    (h : ∀ cells : Array Value, cells[41]? = some (.slice b n c) → K (a.put o.dst (.agg cells)) w) : o.wp Try.prog a w K Q := by
  have hb := built61 b n c
  cases hc : Try.prog.built 61 [(17, .slice b n c)] with
  | none => rw [hc] at hb; simp at hb
  | some cells =>
    rw [hc] at hb
    refine wp_build (P := Try.prog) 61 _ ho ?_ ?_
    · simp [hx, hc]
    · simp only [List.map_toArray, List.map_cons, List.map_nil, hx, hc]
      exact h cells hb

/-- The loop of ZZhasExtension: the first k ids are laid. -/
structure ERel (w : World) (us : List Value) (k : Nat) (wr : World) : Prop where
  le : k ≤ us.length
  exts : Exts wr w.heap.size us.length (us.take k ++ List.replicate (us.length - k) (.slice none 0 0))
  bel : Below w.heap.size w wr
theorem ERel.cell0 {w wr : World} {us : List Value} {k : Nat} (h : ERel w us k wr) (hk : k < us.length) : (∃ u, wr.cell? ⟨w.heap.size, 3 * k, none⟩ = some u) ∧ wr.frozen? ⟨w.heap.size, 3 * k, none⟩ = false :=
  ⟨⟨_, (h.exts.cells k hk).1⟩, h.exts.frozen _⟩
theorem ERel.id {w wr : World} {us : List Value} {k : Nat} (h : ERel w us k wr) (hk : k < us.length) : ERel w us (k + 1) (wr.setCell ⟨w.heap.size, 3 * k, none⟩ (us.getD k undef)) := by
  have := h.exts.setId k hk (us.getD k undef)
  rw [take_set_succ us k _ _ hk rfl] at this
  exact ⟨hk, this, h.bel.setCell (Nat.le_refl _) _⟩
theorem ERel.both {w wr : World} {us : List Value} {k j : Nat} (h : ERel w us j wr) (hk : k < us.length) : (∃ β, wr.cell? ⟨w.heap.size, 3 * k + 1, none⟩ = some (.bool β)) ∧ wr.frozen? ⟨w.heap.size, 3 * k + 1, none⟩ = false ∧ (∀ γ, ERel w us j (wr.setCell ⟨w.heap.size, 3 * k + 1, none⟩ (.bool γ))) ∧
    (∃ a m c, wr.cell? ⟨w.heap.size, 3 * k + 2, none⟩ = some (.slice a m c)) ∧ wr.frozen? ⟨w.heap.size, 3 * k + 2, none⟩ = false := by
  obtain ⟨_, r1, r2⟩ := h.exts.cells k hk
  exact ⟨r1, h.exts.frozen _, fun γ => ⟨h.le, h.exts.setCrit k hk γ, h.bel.setCell (Nat.le_refl _) _⟩, r2, h.exts.frozen _⟩
theorem ERel.val {w wr : World} {us : List Value} {k j : Nat} (h : ERel w us j wr) (hk : k < us.length) (a : Option Addr) (m c : Nat) : ERel w us j (wr.setCell ⟨w.heap.size, 3 * k + 2, none⟩ (.slice a m c)) :=
  ⟨h.le, h.exts.setVal k hk a m c, h.bel.setCell (Nat.le_refl _) _⟩

set_option maxHeartbeats 1000000 in
set_option maxRecDepth 20000 in
theorem has12 (us bs vs : List Value) (a0 a1 a2 a3 : Option Addr) (c0 c1 c2 c3 : Nat) (cs : List (List Int)) (ys : List Int) (w : World) (lo lo' : Nat) (hz : us.length ≤ 10000000) (hz1 : bs.length ≤ 10000000) (hz2 : vs.length ≤ 10000000) (hy : ys.length ≤ 10000000)
    (hcl : cs.length = us.length) (hlen : ∀ j, j < us.length → (cs.getD j []).length ≤ 10000000)
    (h0 : Row 0 w a0 us) (h1 : Row 0 w a1 bs) (h2 : Row 0 w a2 vs) (h3 : Row lo' w a3 (ivs ys)) (hin : ∀ j, j < us.length → IsI lo w (us.getD j undef) (cs.getD j []))
    (hbs : ∀ j, j < bs.length → ∃ β, bs.getD j undef = .bool β) (hvs : ∀ j, j < vs.length → ∃ a m c, vs.getD j undef = .slice a m c) :
    Calls Try.prog 12 #[.slice a0 us.length c0, .slice a1 bs.length c1, .slice a2 vs.length c2, .slice a3 ys.length c3] w (SaysB (cs.any (· == ys)) w) := by
  have hmk := make_exts us.length hz
  obtain ⟨b0, off0, hix0, hcell0, _⟩ := row_open h0 Try.underlying22 Try.info25
  obtain ⟨b1, off1, hix1, hcell1, _⟩ := row_open h1 Try.underlying23 Try.info4
  obtain ⟨b2, off2, hix2, hcell2, _⟩ := row_open h2 Try.underlying24 Try.info33
  have hixX := fun k hk w' => indexAt_three w.heap.size us.length k hk w'
  have H0 : Hid (∀ j, j < us.length → w.cell? ⟨b0, off0 + j, none⟩ = some (us.getD j undef)) := hcell0
  have H1 : Hid (∀ j, j < bs.length → w.cell? ⟨b1, off1 + j, none⟩ = some (bs.getD j undef)) := hcell1
  have H2 : Hid (∀ j, j < vs.length → w.cell? ⟨b2, off2 + j, none⟩ = some (vs.getD j undef)) := hcell2
  have HI : Hid (∀ j, j < us.length → IsI lo w (us.getD j undef) (cs.getD j [])) := hin
  have H3 : Hid (Row lo' w a3 (ivs ys)) := h3
  have HL : Hid (∀ j, j < us.length → (cs.getD j []).length ≤ 10000000) := hlen
  have HCL : Hid (cs.length = us.length) := hcl
  have HB : Hid (∀ j, j < bs.length → ∃ β, bs.getD j undef = .bool β) := hbs
  have HV : Hid (∀ j, j < vs.length → ∃ a m c, vs.getD j undef = .slice a m c) := hvs
  clear h0 h1 h2 h3 hin hcell0 hcell1 hcell2 hlen hcl hbs hvs
  go_enter Try.func12, Try.ntmps12
  go_wp2
  go_loopw [10] (fun i wr => ∃ k : Nat, i = .int .i64 k ∧ ERel w us k wr) (fun i _ => us.length - (intOf i).toNat)
  case atStart => exact ⟨0, rfl, Nat.zero_le _, by simpa using Exts.made w us.length, (Below.refl _ _).alloc (Nat.le_refl _) _⟩
  case round =>
    obtain ⟨k, rfl, hrel⟩ := hrel
    by_cases hlt : k < us.length
    · have g0 : wr.cell? ⟨b0, off0 + k, none⟩ = some (us.getD k undef) := cell_later hrel.bel (H0.out k hlt)
      obtain ⟨aa, cc, hv, _⟩ := HI.out k hlt
      have hx := hrel.id hlt
      obtain ⟨⟨uX, q0⟩, q1⟩ := hrel.cell0 hlt
      rw [hv] at g0 hx
      clear hv
      generalize (ivs (cs.getD k [])).length = ln at *
      obtain ⟨⟨β0, r1⟩, f1, sz1, ⟨x2, y2, z2, r2⟩, f2⟩ := hx.both hlt
      by_cases hc1 : k < bs.length
      · have g1 : wr.cell? ⟨b1, off1 + k, none⟩ = some (bs.getD k undef) := cell_later hrel.bel (H1.out k hc1)
        obtain ⟨β, hβ⟩ := HB.out k hc1
        rw [hβ] at g1
        clear hβ
        have l1 : b1 < w.heap.size := World.block_lt_of_cell? w _ (H1.out k hc1)
        have n1 : b1 ≠ w.heap.size := by omega
        have n1' : w.heap.size ≠ b1 := by omega
        by_cases hc2 : k < vs.length
        · have g2 : wr.cell? ⟨b2, off2 + k, none⟩ = some (vs.getD k undef) := cell_later hrel.bel (H2.out k hc2)
          obtain ⟨av, mv, cv, hvv⟩ := HV.out k hc2
          rw [hvv] at g2
          clear hvv
          have l2 : b2 < w.heap.size := World.block_lt_of_cell? w _ (H2.out k hc2)
          have n2 : b2 ≠ w.heap.size := by omega
          have n2' : w.heap.size ≠ b2 := by omega
          have hfin := (sz1 β).val hlt av mv cv
          go_wp2
          go_roundw
          case rel => exact ⟨k + 1, by go_num, hfin⟩
          case measure => simp [intOf]; omega
        · have hfin := sz1 β
          go_wp2
          go_roundw
          case rel => exact ⟨k + 1, by go_num, hfin⟩
          case measure => simp [intOf]; omega
      · by_cases hc2 : k < vs.length
        · have g2 : wr.cell? ⟨b2, off2 + k, none⟩ = some (vs.getD k undef) := cell_later hrel.bel (H2.out k hc2)
          obtain ⟨av, mv, cv, hvv⟩ := HV.out k hc2
          rw [hvv] at g2
          clear hvv
          have l2 : b2 < w.heap.size := World.block_lt_of_cell? w _ (H2.out k hc2)
          have n2 : b2 ≠ w.heap.size := by omega
          have n2' : w.heap.size ≠ b2 := by omega
          have hfin := hx.val hlt av mv cv
          go_wp2
          go_roundw
          case rel => exact ⟨k + 1, by go_num, hfin⟩
          case measure => simp [intOf]; omega
        · go_wp2
          go_roundw
          case rel => exact ⟨k + 1, by go_num, hx⟩
          case measure => simp [intOf]; omega
    · have e : k = us.length := by have := hrel.le; omega
      subst e
      have hX := hrel.exts
      rw [Nat.sub_self, List.take_of_length_le (Nat.le_refl _), List.replicate_zero, List.append_nil] at hX
      have hb1 : ∀ o, Below wr.heap.size wr (wr.alloc o) := fun o => (Below.refl _ _).alloc (Nat.le_refl _) o
      have hcall : ∀ cells : Array Value, cells[41]? = some (.slice (some ⟨w.heap.size, 0, none⟩) us.length us.length) → Calls Try.prog 15 #[.pointer (some ⟨wr.heap.size, 0, none⟩), .slice a3 ys.length c3] (wr.alloc (.cells cells 61)) (SaysB (cs.any (· == ys)) (wr.alloc (.cells cells 61))) := fun cells hc =>
        has15 wr.heap.size w.heap.size us.length c3 a3 us cs ys _ lo lo' hz hy HCL.out HL.out (hX.below (hb1 _) hX.lt) (fun j hj => ((HI.out j hj).below hrel.bel).below (hb1 _)) ((H3.out.below hrel.bel).below (hb1 _)) (by rw [(Arr.new wr cells 61).cell]; simpa using hc)
      generalize hm : cs.any (· == ys) = m at *
      go_wp2_with fail
      refine wp_build61 _ rfl _ _ _ rfl ?_
      intro cells hc
      go_wp2_with fail
      refine (hcall cells hc).mono ?_
      rintro en w1 ⟨rfl, hb2⟩
      go_wp2_with fail
      go_ret
      exact SaysB.mk _ hm.symm (hrel.bel.trans (((hb1 _).trans (hb2.mono (by simp))).mono hrel.bel.size))
end Go.Proofs.Qxb6604382a
