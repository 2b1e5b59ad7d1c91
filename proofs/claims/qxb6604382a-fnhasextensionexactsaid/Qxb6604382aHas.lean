import Derived.Test.Qxb6604382aLists
namespace Go.Proofs.Qxb6604382a
open Go.RowKit
set_option linter.unusedVariables false

theorem Try.info38 : (Try.prog.info? 38).map (fun i => (i.zero, i.size, i.bytes)) = some (some (.agg #[.slice none 0 0, .bool false, .slice none 0 0]), 3, 56) := by kernel_rfl

theorem has17 (a a' : Option Addr) (c c' I : Nat) (xs ys : List Int) (x1 : Bool) (a2 : Option Addr) (n2 c2 : Nat) (w : World) (lo lo' : Nat) (hx : xs.length ≤ 10000000) (hy : ys.length ≤ 10000000) (h1 : Row lo w a (ivs xs)) (h2 : Row lo' w a' (ivs ys))
    (hI : w.cell? ⟨I, 0, none⟩ = some (.slice a' ys.length c')) :
    Calls Try.prog 17 #[.agg #[.slice a xs.length c, .bool x1, .slice a2 n2 c2], .pointer (some ⟨I, 0, none⟩)] w (SaysB (xs == ys) w) := by
  have hIlt : I < w.heap.size := World.block_lt_of_cell? w _ hI
  have H : ∀ w', Below w.heap.size w w' → Calls Try.prog 18 #[.slice a xs.length c, .slice a' ys.length c'] w' (SaysB (xs == ys) w') := fun w' hb => equal18 a a' c c' xs ys w' lo lo' hx hy (h1.below hb) (h2.below hb)
  clear h1 h2
  go_enter Try.func17, Try.ntmps17
  go_wp2_with fail
  refine (H _ ((Below.refl _ _).alloc (Nat.le_refl _) _)).mono ?_
  rintro e w1 ⟨rfl, hb⟩
  go_wp2_with fail
  go_ret
  exact ⟨rfl, ((Below.refl _ _).alloc (Nat.le_refl _) _).trans (hb.mono (by simp))⟩

/-- Block X: n extensions, whose ids are us. -/
structure Exts (w : World) (X n : Nat) (us : List Value) : Prop where
  ul : us.length = n
  arr : ∃ cur, Arr w X 38 cur ∧ cur.length = 3 * n ∧ (∀ j, j < n → cur[3 * j]? = some (us.getD j undef)) ∧ (∀ j, j < n → ∃ β, cur[3 * j + 1]? = some (Value.bool β)) ∧ ∀ j, j < n → ∃ a m c, cur[3 * j + 2]? = some (Value.slice a m c)
theorem Exts.cells {w : World} {X n : Nat} {us : List Value} (h : Exts w X n us) (j : Nat) (hj : j < n) : w.cell? ⟨X, 3 * j, none⟩ = some (us.getD j undef) ∧ (∃ β, w.cell? ⟨X, 3 * j + 1, none⟩ = some (.bool β)) ∧ ∃ a m c, w.cell? ⟨X, 3 * j + 2, none⟩ = some (.slice a m c) := by
  obtain ⟨cur, ha, hl, h1, h2, h3⟩ := h.arr
  rw [ha.cell, ha.cell, ha.cell]
  exact ⟨h1 j hj, h2 j hj, h3 j hj⟩
theorem Exts.lt {w : World} {X n : Nat} {us : List Value} (h : Exts w X n us) : X < w.heap.size := by
  obtain ⟨cur, ha, _⟩ := h.arr
  exact ha.lt
theorem Exts.below {w w' : World} {X n B : Nat} {us : List Value} (h : Exts w X n us) (hb : Below B w w') (hB : X < B) : Exts w' X n us := by
  obtain ⟨cur, ha, r⟩ := h.arr
  exact ⟨h.ul, cur, ha.below hb hB, r⟩

theorem indexAt_three (X n k : Nat) (hk : k < n) (w : World) :
    (Instr.indexAt 35 (.slice (some ⟨X, 0, none⟩) n n) (.int .i64 k)).run Try.prog w = .ok (.pointer (some ⟨X, 3 * k, none⟩)) w := by
  obtain ⟨i, hi, hz0, hz1, hz2⟩ := info_parts Try.info38
  have he : Try.prog.elem 35 = 38 := by simp [Program.elem, Try.underlying35]
  rw [run_indexAt_slice (h := by rw [he]; exact Try.underlying35), if_pos ⟨by omega, by omega⟩, he]
  simp [sizeOf, typeInfo, hi, hz1, Addr.add, Nat.mul_comm]
  exact fun h => h.symm

/-- 'It answers the place of the first that fits, or a number below 0.' -/
def SaysPlace (β : Bool) (w : World) (e : Ending) (w' : World) : Prop := ∃ r : Int, e = .returned (.int .i64 r) ∧ decide (r ≥ 0) = β ∧ Below w.heap.size w w'

set_option maxHeartbeats 400000 in
theorem has19 (X n I c' : Nat) (a' : Option Addr) (us : List Value) (cs : List (List Int)) (ys : List Int) (w : World) (lo lo' : Nat) (hn : n ≤ 10000000) (hy : ys.length ≤ 10000000) (hcl : cs.length = n) (hlen : ∀ j, j < n → (cs.getD j []).length ≤ 10000000)
    (hX : Exts w X n us) (hin : ∀ j, j < n → IsI lo w (us.getD j undef) (cs.getD j [])) (h2 : Row lo' w a' (ivs ys)) (hI : w.cell? ⟨I, 0, none⟩ = some (.slice a' ys.length c')) :
    Calls Try.prog 19 #[.slice (some ⟨X, 0, none⟩) n n, .func (.func 17) #[] #[.pointer (some ⟨I, 0, none⟩)]] w (SaysPlace (cs.any (· == ys)) w) := by
  have hix := fun k hk w => indexAt_three X n k hk w
  have HX : Hid (Exts w X n us) := hX
  have HI : Hid (∀ j, j < n → IsI lo w (us.getD j undef) (cs.getD j [])) := hin
  have HL : Hid (∀ j, j < n → (cs.getD j []).length ≤ 10000000) := hlen
  have H2 : Hid (Row lo' w a' (ivs ys)) := h2
  have HII : Hid (w.cell? ⟨I, 0, none⟩ = some (.slice a' ys.length c')) := hI
  clear hX hin h2 hI hlen
  go_enter Try.func19, Try.ntmps19
  go_wp2
  go_loopw [8] (fun i wr => ∃ k : Nat, k ≤ n ∧ i = .int .i64 k ∧ (∀ j, j < k → (cs.getD j [] == ys) = false) ∧ Below w.heap.size w wr) (fun i _ => n - (intOf i).toNat)
  case atStart => exact ⟨0, Nat.zero_le _, rfl, fun j hj => by omega, Below.refl _ _⟩
  case round =>
    obtain ⟨k, hk, rfl, hall, hbel⟩ := hrel
    by_cases hlt : k < n
    · obtain ⟨g0, ⟨β, g1⟩, aa, mm, cc, g2⟩ := (HX.out.below hbel HX.out.lt).cells k hlt
      obtain ⟨a0, c0, hv, _, hr⟩ := (HI.out k hlt).below hbel
      rw [hv] at g0
      rw [ivs_len] at g0
      have hcall := has17 a0 a' c0 c' I (cs.getD k []) ys β aa mm cc wr lo lo' (HL.out k hlt) hy hr (H2.out.below hbel) (cell_later hbel HII.out)
      generalize hm : (cs.getD k [] == ys) = m at hcall
      generalize (cs.getD k []).length = len0 at *
      have hix0 := fun w => hix k hlt w
      clear hix
      cases m with
      | true =>
        go_wp2_with fail
        refine hcall.mono ?_
        rintro en w1 ⟨rfl, hb1⟩
        go_wp2
        go_ret
        refine ⟨_, rfl, ?_, hbel.trans (hb1.mono hbel.size)⟩
        rw [Eq.comm]
        have : cs.any (· == ys) = true := by
          rw [List.any_eq_true]
          exact ⟨cs.getD k [], by simp [hcl, hlt], hm⟩
        rw [this]
        simp
      | false =>
        go_wp2_with fail
        refine hcall.mono ?_
        rintro en w1 ⟨rfl, hb1⟩
        go_wp2
        go_roundw
        case rel =>
          refine ⟨k + 1, by omega, by go_num, fun j hj => ?_, hbel.trans (hb1.mono hbel.size)⟩
          by_cases e : j = k
          · rw [e, hm]
          · exact hall j (by omega)
        case measure => simp [intOf]; omega
    · go_wp2
      go_ret
      refine ⟨_, rfl, ?_, hbel⟩
      have : cs.any (· == ys) = false := by
        rw [List.any_eq_false]
        intro x hx
        obtain ⟨j, hj, rfl⟩ := List.getElem_of_mem hx
        have := hall j (by omega)
        simpa [hj] using this
      rw [this]
      simp

set_option maxHeartbeats 400000 in
theorem has16 (X n I c' : Nat) (a' : Option Addr) (us : List Value) (cs : List (List Int)) (ys : List Int) (w : World) (lo lo' : Nat) (hn : n ≤ 10000000) (hy : ys.length ≤ 10000000) (hcl : cs.length = n) (hlen : ∀ j, j < n → (cs.getD j []).length ≤ 10000000)
    (hX : Exts w X n us) (hin : ∀ j, j < n → IsI lo w (us.getD j undef) (cs.getD j [])) (h2 : Row lo' w a' (ivs ys)) (hI : w.cell? ⟨I, 0, none⟩ = some (.slice a' ys.length c')) :
    Calls Try.prog 16 #[.slice (some ⟨X, 0, none⟩) n n, .func (.func 17) #[] #[.pointer (some ⟨I, 0, none⟩)]] w (SaysB (cs.any (· == ys)) w) := by
  have H := has19 X n I c' a' us cs ys w lo lo' hn hy hcl hlen hX hin h2 hI
  generalize cs.any (· == ys) = m at *
  clear hX hin h2 hI
  go_enter Try.func16, Try.ntmps16
  go_wp2_with fail
  refine H.mono ?_
  rintro e w1 ⟨r, rfl, hr, hb⟩
  go_wp2_with fail
  go_ret
  exact SaysB.mk _ rfl hb

set_option maxHeartbeats 400000 in
theorem has15 (C X n c' : Nat) (a' : Option Addr) (us : List Value) (cs : List (List Int)) (ys : List Int) (w : World) (lo lo' : Nat) (hn : n ≤ 10000000) (hy : ys.length ≤ 10000000) (hcl : cs.length = n) (hlen : ∀ j, j < n → (cs.getD j []).length ≤ 10000000)
    (hX : Exts w X n us) (hin : ∀ j, j < n → IsI lo w (us.getD j undef) (cs.getD j [])) (h2 : Row lo' w a' (ivs ys)) (hI : w.cell? ⟨C, 41, none⟩ = some (.slice (some ⟨X, 0, none⟩) n n)) :
    Calls Try.prog 15 #[.pointer (some ⟨C, 0, none⟩), .slice a' ys.length c'] w (SaysB (cs.any (· == ys)) w) := by
  have hClt : C < w.heap.size := World.block_lt_of_cell? w _ hI
  have hb0 : Below w.heap.size w (w.alloc (.cells #[.slice a' ys.length c'] 36)) := (Below.refl _ _).alloc (Nat.le_refl _) _
  have H := has16 X n w.heap.size c' a' us cs ys (w.alloc (.cells #[.slice a' ys.length c'] 36)) lo lo' hn hy hcl hlen (hX.below hb0 hX.lt) (fun j hj => (hin j hj).below hb0) (h2.below hb0) (by rw [(Arr.new w _ 36).cell]; rfl)
  generalize cs.any (· == ys) = m at *
  clear hX hin h2
  go_enter Try.func15, Try.ntmps15
  go_wp2_with fail
  refine H.mono ?_
  rintro e w1 ⟨rfl, hb⟩
  go_wp2_with fail
  go_ret
  exact SaysB.mk _ rfl (hb0.trans (hb.mono (by simp)))

end Go.Proofs.Qxb6604382a
