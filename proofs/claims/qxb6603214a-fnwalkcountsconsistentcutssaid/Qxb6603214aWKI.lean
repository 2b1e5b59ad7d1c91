import Derived.Test.Qxb6603214aWPh
import Derived.Test.Qxb6603214aNCI
namespace Go.Proofs.Qxb6603214a
open Go.RowKit Go.Maps WalkP
set_option linter.unusedVariables false

/-- What walk does, as its walk proves it. -/
def WalkSpec : Prop := ∀ (R E C Ge np n g c0 c2 c3 c4 cg : Nat) (a0 a2 a3 a4 ag : Option Addr) (ls pr sd sq grp : List Int) (B : Int) (w : World), n ≤ 5000 → np ≤ 5000 → g ≤ 5000 → Shape np n ls pr sd → sq.length = n → grp.length = g → (∀ j, j < g → InR np (grp.getD j 0)) →
    -9223372036854775808 ≤ B → B ≤ 9223372036854775807 → ∀ M : Nat, M ≤ 1000000000000 → (0 < g → ∀ k, Runs (ctxOf np g grp ls pr sd sq) B k → (st (ctxOf np g grp ls pr sd sq) k).steps ≤ M) →
    w.cell? ⟨C, 0, none⟩ = some (.pointer (some ⟨R, 0, none⟩)) → w.cell? ⟨C, 1, none⟩ = some (.slice (some ⟨Ge, 0, none⟩) np np) → IArr w Ge (evTo ls np np) →
    RunAt w R (.slice a0 np c0) (.slice a2 ls.length c2) (.slice a3 pr.length c3) (.slice a4 sd.length c4) E sq → Ints w a2 ls → Ints w a3 pr → Ints w a4 sd → Ints w ag grp →
    Calls Try.prog 41 #[.pointer (some ⟨C, 0, none⟩), .slice ag g cg, .int .i64 B] w (WalkSays (ctxOf np g grp ls pr sd sq) (frOf (ctxOf np g grp ls pr sd sq)) B w)

set_option maxHeartbeats 400000 in
theorem walk34 {c : Ctx} {fr : Nat → Nat} {B : Int} (v1 : Value) (C : Nat) (w : World) (h : Calls Try.prog 41 #[.pointer (some ⟨C, 0, none⟩), v1, .int .i64 B] w (WalkSays c fr B w)) : Calls Try.prog 34 #[.pointer (some ⟨C, 0, none⟩), v1, .int .i64 B] w (WalkSays c fr B w) := by
  have H : Hid (Calls Try.prog 41 #[.pointer (some ⟨C, 0, none⟩), v1, .int .i64 B] w (WalkSays c fr B w)) := h
  clear h
  go_enter Try.func34, Try.ntmps34
  go_wp2_with fail
  refine H.out.mono ?_
  rintro e w' ⟨r1, x, s, ok, rfl, r2⟩
  go_wp2
  go_ret3
  exact ⟨r1, x, s, ok, rfl, r2⟩

/-! ### The law on the budget, plainly -/
/-- The first call is answered by a yes. -/
theorem outs_yes {c : Ctx} (hc : c.Ok) {fr : Nat → Nat} (hf : Free c fr) {B x s : Int} (h : Outs c fr B x s true) : ∃ k, Done c B k ∧ x = (st c k).count ∧ s = (st c k).steps := by
  rcases h with ⟨h0, _⟩ | ⟨_, _, _, _, h1⟩ | ⟨_, _, k, ⟨h1, h2, h3, _⟩ | ⟨_, _, _, h4⟩⟩
  · exact absurd hc.pos (by omega)
  · cases h1
  · exact ⟨k, h1, h2, h3⟩
  · cases h4
theorem outs_no {c : Ctx} (hc : c.Ok) {fr : Nat → Nat} {B x s : Int} (h : Outs c fr B x s false) : x = 0 ∧ (s = 0 ∨ B < s) := by
  rcases h with ⟨_, _, _, h0⟩ | ⟨_, _, h2, h3, _⟩ | ⟨_, _, k, ⟨_, _, _, h1⟩ | ⟨h1, h2, h3, _⟩⟩
  · cases h0
  · exact ⟨h2, .inl h3⟩
  · cases h1
  · exact ⟨h2, .inr (by rw [h3]; exact h1.2.2)⟩
theorem outs_bounds {c : Ctx} (hc : c.Ok) {B : Int} {k : Nat} (h : Done c B k) : 1 ≤ (st c k).count ∧ (st c k).count ≤ (st c k).steps ∧ ((st c k).steps : Int) ≤ B ∧ (st c k).steps ≤ 2 * c.g * (st c k).count := by
  obtain ⟨h1, h2, h3⟩ := end_bounds hc h.2
  exact ⟨h1, h2, h.le hc, h3⟩
theorem outs_again {c : Ctx} (hc : c.Ok) {fr : Nat → Nat} (hf : Free c fr) {B : Int} {k : Nat} (h : Done c B k) {x s : Int} {ok : Bool} (h2 : Outs c fr (st c k).steps x s ok) : ok = true ∧ x = (st c k).count ∧ s = (st c k).steps := by
  rcases h2 with ⟨h0, _⟩ | ⟨_, h1, _⟩ | ⟨_, _, k', ⟨h1, h2, h3, h4⟩ | ⟨h1, _⟩⟩
  · exact absurd hc.pos (by omega)
  · have e1 := end_free hc hf h.2
    have e2 := (end_bounds hc h.2).2.1
    omega
  · obtain rfl := h.unique h1
    exact ⟨h4, h2, h3⟩
  · exact (h.not_fails (Int.le_refl _) h1).elim
theorem outs_less {c : Ctx} (hc : c.Ok) {fr : Nat → Nat} {B : Int} {k : Nat} (h : Done c B k) {x s : Int} {ok : Bool} (h2 : Outs c fr (((st c k).steps : Int) - 1) x s ok) : ok = false ∧ x = 0 ∧ (s = 0 ∨ ((st c k).steps : Int) - 1 < s) := by
  rcases h2 with ⟨h0, _⟩ | ⟨_, _, h3, h4, h5⟩ | ⟨_, _, k', ⟨h1, _⟩ | ⟨h1, h3, h4, h5⟩⟩
  · exact absurd hc.pos (by omega)
  · exact ⟨h5, h3, .inl h4⟩
  · exact (h.not_less hc h1).elim
  · exact ⟨h5, h3, .inr (by rw [h4]; exact h1.2.2)⟩
end Go.Proofs.Qxb6603214a
