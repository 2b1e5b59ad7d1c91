/-
  No cell of these rows narrows 'for every input' (looked for: loops, veiled, ifaces, maps, wideKeys, modest, calm, conditions, laid).
  DERIVED. THE GIVEN ROWS OF THIS SEAT. 2 by the template 'for every input the law returns true; each argument reads behind the call as it read before'; 0 by the template 'total and deterministic' (their statements: Qxb6604382aTotals.lean).
  GIVEN WITH THE SEED: the statements are not yours to turn. If you find one false, say at which input.
  Laid BY PROGRAM, IN A SANDBOX (cutbox-rows.mjs): the forced cells as the released guide's own fill.sh prints them over the translation cc3bec5cdef02122… (all of the seat's roots in one cut). By AI agents, Wed Nov 11 2026. No macro, syntax, notation, axiom, sorry.
-/
import Derived.Test.Qxb6604382aChecked
import GoSem.Claim
import GoSem.ClaimJoined
import GoSem.ClaimMapViews
import Derived.JoinedTies
import Derived.KernelRfl
namespace Go.Proofs.Qxb6604382a
/- THE CELL 'sum', in the pinned program and in every row, IS THE sha256 OF THE DUMP (.gsa) THAT Qxb6604382aProg.lean LOADS. Nothing in Lean hashes anything: it is a label: what it is worth is what the hold of that sum in a sandbox is worth. -/
noncomputable def Try.pinned : Pinned := { name := "qxb6604382a", sum := "cc3bec5cdef0212286c52d03e0fefd9c779d91de5532c152f9b911786d2c1a24", checked := Try.checked }
namespace Rows
def none {H : Type} : Left H := { results := [], args := [] }

/-- 'zzlaws_pkg_appstore_b1.FnHasExtensionExact': WHATEVER THE INPUT: true; the input reads as it did. -/
def fnHasExtensionExactSpec : ChangeSpec := { name := "fnHasExtensionExact", fn := fun _ => fun
  | [d1, d2, d3, d4] => { results := [.lit (.bool true)], args := [d1, d2, d3, d4] }
  | _ => none }
def fnHasExtensionExactRow : OpenClaim := { program := "qxb6604382a", sum := "cc3bec5cdef0212286c52d03e0fefd9c779d91de5532c152f9b911786d2c1a24", func := "example.com/entitlement/entitlement/zzlaws_pkg_appstore_b1.FnHasExtensionExact", spec := "fnHasExtensionExact", unfollowed := true, recurses := true, apart := false }
def FnHasExtensionExactSaid : Prop := fnHasExtensionExactRow.holds Try.pinned (OpenSpec.ofChange fnHasExtensionExactSpec)

/-- ITS FALSE NEIGHBOUR: 'it returns false'. Refute it at one input. -/
def fnHasExtensionExactWrong : ChangeSpec := { name := "fnHasExtensionExact", fn := fun _ => fun
  | [d1, d2, d3, d4] => { results := [.lit (.bool false)], args := [d1, d2, d3, d4] }
  | _ => none }
def FnHasExtensionExactWrongFalsely : Prop := fnHasExtensionExactRow.holds Try.pinned (OpenSpec.ofChange fnHasExtensionExactWrong)

/-- 'zzlaws_pkg_appstore_b1.FnHasExtensionInsertedNotPrefix': WHATEVER THE INPUT: true; the input reads as it did. -/
def fnHasExtensionInsertedNotPrefixSpec : ChangeSpec := { name := "fnHasExtensionInsertedNotPrefix", fn := fun _ => fun
  | [d1, d2, d3, d4] => { results := [.lit (.bool true)], args := [d1, d2, d3, d4] }
  | _ => none }
def fnHasExtensionInsertedNotPrefixRow : OpenClaim := { program := "qxb6604382a", sum := "cc3bec5cdef0212286c52d03e0fefd9c779d91de5532c152f9b911786d2c1a24", func := "example.com/entitlement/entitlement/zzlaws_pkg_appstore_b1.FnHasExtensionInsertedNotPrefix", spec := "fnHasExtensionInsertedNotPrefix", unfollowed := true, recurses := true, apart := false }
def FnHasExtensionInsertedNotPrefixSaid : Prop := fnHasExtensionInsertedNotPrefixRow.holds Try.pinned (OpenSpec.ofChange fnHasExtensionInsertedNotPrefixSpec)

/-- ITS FALSE NEIGHBOUR: 'it returns false'. Refute it at one input. -/
def fnHasExtensionInsertedNotPrefixWrong : ChangeSpec := { name := "fnHasExtensionInsertedNotPrefix", fn := fun _ => fun
  | [d1, d2, d3, d4] => { results := [.lit (.bool false)], args := [d1, d2, d3, d4] }
  | _ => none }
def FnHasExtensionInsertedNotPrefixWrongFalsely : Prop := fnHasExtensionInsertedNotPrefixRow.holds Try.pinned (OpenSpec.ofChange fnHasExtensionInsertedNotPrefixWrong)

end Rows
end Go.Proofs.Qxb6604382a
