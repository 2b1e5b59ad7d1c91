import Derived.Test.Qxb6603214aVMap
import Derived.ProofKit
namespace Go.Proofs.Qxb6603214a
open Go.RowKit Go.Maps
set_option linter.unusedVariables false

theorem laidOutK : laidOutB Try.prog = true := by kernel_rfl
theorem row74 : 74 < Try.prog.types.size := of_decide_eq_true (by kernel_rfl)
theorem kta74 : Try.prog.keyTypeAt 2 74 = true := by kernel_rfl
theorem linkKeyed : Keyed Try.prog 74 := Keyed.of_law (deep_law_laid laidOutK (m := 2) (by omega) row74 kta74 (by rw [Try.underlying74]))

/-- The key of a link, as it is told. -/
def key (p q : Int) : Lit := .string (keyBytes [.int .i64 p, .int .i64 q])
theorem keyType74 : Try.prog.keyType 74 = true := by kernel_rfl
theorem typesSize : Try.prog.types.size = 136 := by kernel_rfl
theorem cells74 : Try.prog.cellsOf 74 = 2 := by kernel_rfl
theorem cellsOf3 : Try.prog.cellsOf 3 = 1 := by kernel_rfl
theorem keyLits3 (d : Nat) (p : Int) (hp : (Lit.int .i64 p).wf = true) : Try.prog.keyLits (d + 1) 3 [.int .i64 p] = some [.int .i64 p] := by
  simp [Program.keyLits, Try.underlying3, hp]
theorem keyLits_arr2 {P : Program} {t e : TypeId} {d : Nat} {x y : Value} {a b : List Lit} (ht : P.underlying t = some (.array 2 e)) (hc : P.cellsOf t = 2) (he : P.cellsOf e = 1) (h1 : P.keyLits d e [x] = some a) (h2 : P.keyLits d e [y] = some b) : P.keyLits (d + 1) t [x, y] = some (a ++ b) := by
  unfold Program.keyLits
  simp [ht, hc, he, List.range_succ, h1, h2]
theorem keyLits74 (d : Nat) (p q : Int) (hp : (Lit.int .i64 p).wf = true) (hq : (Lit.int .i64 q).wf = true) : Try.prog.keyLits (d + 1 + 1) 74 [.int .i64 p, .int .i64 q] = some [.int .i64 p, .int .i64 q] :=
  keyLits_arr2 Try.underlying74 cells74 cellsOf3 (keyLits3 d p hp) (keyLits3 d q hq)
theorem key_of (p q : Int) (hp : (Lit.int .i64 p).wf = true) (hq : (Lit.int .i64 q).wf = true) : keyOf Try.prog 74 (.agg #[.int .i64 p, .int .i64 q]) = some (key p q) := by
  unfold keyOf key
  rw [Try.underlying74, keyType74, typesSize]
  have hf : Value.formed Try.prog 74 (.agg #[.int .i64 p, .int .i64 q]) = true := by
    simp [Value.formed, Try.underlying74, cells74]
  have hl : Try.prog.keyLits (136 + 1) 74 (Value.agg #[.int .i64 p, .int .i64 q]).cells.toList = some [.int .i64 p, .int .i64 q] := by
    exact keyLits74 135 p q hp hq
  rw [hl]
  simp [hf]
theorem key_inj (p q p' q' : Int) (hp : (Lit.int .i64 p).wf = true) (hq : (Lit.int .i64 q).wf = true) (hp' : (Lit.int .i64 p').wf = true) (hq' : (Lit.int .i64 q').wf = true) (h : key p q = key p' q') : p = p' ∧ q = q' := by
  have h1 := key_of p q hp hq
  have h2 := key_of p' q' hp' hq'
  rw [h] at h1
  have := linkKeyed.inj h1 h2
  simpa using this
end Go.Proofs.Qxb6603214a
