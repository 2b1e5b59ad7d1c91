import Derived.Test.Qxb6603214aNCS
namespace Go.Proofs.Qxb6603214a
open Go.RowKit Go.Maps
theorem Try.info23 : (Try.prog.info? 23).map (fun i => (i.zero, i.size, i.bytes)) = some (some (.slice none 0 0), 1, 24) := by kernel_rfl
/-- What newCutCounter does, as its walk proves it. -/
def NCCSpec : Prop := ∀ (R E np n c0 c2 c3 c4 : Nat) (a0 a2 a3 a4 : Option Addr) (ls pr sd sq : List Int) (w : World), n ≤ 5000 → np ≤ 5000 → Lanes np n ls → Senders n sd → pr.length = n → (∀ i, i < n → InR np (pr.getD i 0)) → sq.length = n →
    RunAt w R (.slice a0 np c0) (.slice a2 ls.length c2) (.slice a3 pr.length c3) (.slice a4 sd.length c4) E sq → Ints w a2 ls → Ints w a3 pr → Ints w a4 sd →
    Calls Try.prog 38 #[.pointer (some ⟨R, 0, none⟩)] w (NCMade w np (.pointer (some ⟨R, 0, none⟩)) (evTo ls np np) (lsAt pr sd sq n))
end Go.Proofs.Qxb6603214a
