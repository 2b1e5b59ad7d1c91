import Derived.Test.Qxb6603214aClone2
import Derived.Maps.OwnSet
import Derived.Maps.AppendAt
import Derived.Deep.DeepCutAuto
namespace Go.Proofs.Qxb6603214a
open Go.RowKit Go.Maps
set_option linter.unusedVariables false

/-! ### A map that the call makes, told as a function of its keys. The elements are read as they are ('held'), so no world is looked at. -/
def VR (v : Value) : Option (DataW Value × List MemPlace) := some (.held v, [])

/-- 'f1' is 'f' with 'v' at the key 'k'. -/
structure Upd (f f1 : Lit → Value) (k : Lit) (v : Value) : Prop where
  same : f1 k = v
  other : ∀ l, l ≠ k → f1 l = f l
theorem upd_exists (f : Lit → Value) (k : Lit) (v : Value) : ∃ f1, Upd f f1 k v := by
  classical
  exact ⟨fun l => if l = k then v else f l, by simp, fun l hl => by simp [hl]⟩

/-- Block 'b' is a map of 'sz' entries that holds 'f l' at the key 'l' ('nil' where there is none). -/
def VMap (w : World) (k : TypeId) (b : Nat) (nil : Value) (sz : Nat) (f : Lit → Value) : Prop :=
  ∃ D : DataW Value, w.ownsMap Try.prog k VR b sz D ∧ Maps.size D = sz ∧ (∀ l, D.atKey l (.held nil) = .held (f l)) ∧ (∀ l, Maps.has D l = true ↔ f l ≠ nil)

theorem VMap.made (w : World) (k : TypeId) (nil : Value) : VMap (w.alloc (.map #[] 0)) k w.heap.size nil 0 (fun _ => nil) :=
  ⟨.map [], World.ownsMap_made w Try.prog k VR, rfl, fun l => rfl, fun l => by simp [Maps.has]⟩

section
variable {w : World} {k : TypeId} {b : Nat} {nil : Value} {sz : Nat} {f : Lit → Value}

theorem VMap.lt (h : VMap w k b nil sz f) : b < w.heap.size := let ⟨_, h, _⟩ := h; h.lt
theorem VMap.kept {w' : World} {row : Option Nat} (h : VMap w k b nil sz f) (hg : w.grownBy w' row) (hne : some b ≠ row) : VMap w' k b nil sz f :=
  let ⟨D, h1, h2⟩ := h; ⟨D, h1.kept hg hne, h2⟩
theorem VMap.alloc (h : VMap w k b nil sz f) (o : Obj) : VMap (w.alloc o) k b nil sz f := let ⟨D, h1, h2⟩ := h; ⟨D, h1.alloc o, h2⟩
theorem VMap.setCell (h : VMap w k b nil sz f) {a : Addr} (ha : b ≠ a.block) (u : Value) : VMap (w.setCell a u) k b nil sz f := let ⟨D, h1, h2⟩ := h; ⟨D, h1.setCell ha u, h2⟩
theorem VMap.drewN (h : VMap w k b nil sz f) (n : Nat) : VMap (w.drewN n) k b nil sz f := h
theorem VMap.below {w' : World} {B : Nat} (h : VMap w k b nil sz f) (hb : Below B w w') (hg : b < B) : VMap w' k b nil sz f := by
  obtain ⟨D, ⟨es, cl, hh, r⟩, h2⟩ := h
  exact ⟨D, ⟨es, cl, (hb.block b hg).trans hh, r⟩, h2⟩

theorem VMap.look {t e : TypeId} (h : VMap w k b nil sz f) (K : Keyed Try.prog k) (ht : Try.prog.underlying t = some (.map k e)) (hz : (zeroValue e).run Try.prog w = .ok nil w) {key : Value} {kl : Lit} (hkey : keyOf Try.prog k key = some kl) :
    (Instr.lookup t (.map (some b)) key false).run Try.prog w = .ok (f kl) w := by
  obtain ⟨D, h1, h2, h3, h4⟩ := h
  obtain ⟨v, ps, hrun, hv⟩ := h1.lookup K ht hz (zd := .held nil) (zp := []) rfl hkey
  rw [h3] at hv
  simp [VR] at hv
  rw [hrun, hv.1]

theorem VMap.put {t e : TypeId} (h : VMap w k b nil sz f) (K : Keyed Try.prog k) (ht : Try.prog.underlying t = some (.map k e)) (hn : sz < maxLen) {key : Value} {kl : Lit} (hkey : keyOf Try.prog k key = some kl) {v : Value} (hv : v ≠ nil) :
    ∃ w' sz' f1, (Instr.mapUpdate t (.map (some b)) key v).run Try.prog w = .ok () w' ∧ VMap w' k b nil sz' f1 ∧ Upd f f1 kl v ∧ w.grownBy w' (some b) ∧ (f kl ≠ nil → sz' = sz) ∧ (f kl = nil → sz' = sz + 1) := by
  obtain ⟨D, h1, h2, h3, h4⟩ := h
  obtain ⟨w', hrun, ho, hg⟩ := h1.update K ht hn (ps := []) hkey (show VR v = some (.held v, []) from rfl)
  have hk := K.key hkey
  have hti := h1.tidy K
  have hsz := Maps.size_put (k := kl) hti (DataW.held v)
  have e2 : Maps.size (D.put kl (.held v)) ≤ sz + 1 := by rw [hsz]; split <;> omega
  obtain ⟨f1, hu⟩ := upd_exists f kl v
  refine ⟨w', Maps.size (D.put kl (.held v)), f1, hrun, ⟨D.put kl (.held v), ?_, rfl, fun l => ?_, fun l => ?_⟩, hu, hg, fun hf => ?_, fun hf => ?_⟩
  · obtain ⟨es, cl, a1, a2, a3, a4⟩ := ho
    refine ⟨es, cl, a1, a2, ?_, a4⟩
    rw [a4]
    simp [Maps.size, length_sorted]
  · by_cases e : l = kl
    · subst e; rw [Maps.atKey_put_same h1.isMap hk, hu.same]
    · rw [Maps.atKey_put_other e, hu.other _ e, h3]
  · by_cases e : l = kl
    · subst e; rw [Maps.has_put_same h1.isMap hk, hu.same]; simp [hv]
    · rw [Maps.has_put_other e, hu.other _ e]; exact h4 l
  · rw [hsz, if_pos ((h4 kl).2 hf), h2]
  · rw [hsz, if_neg (fun hh => (h4 kl).1 hh hf), h2]

theorem VMap.del {t e : TypeId} (h : VMap w k b nil sz f) (K : Keyed Try.prog k) (ht : Try.prog.underlying t = some (.map k e)) {key : Value} {kl : Lit} (hkey : keyOf Try.prog k key = some kl) (ty : TypeId) :
    ∃ w' sz' f1, (Builtin.delete_ #[t, k] ty #[.map (some b), key]).run Try.prog w = .ok (.tuple #[]) w' ∧ VMap w' k b nil sz' f1 ∧ Upd f f1 kl nil ∧ w.grownBy w' (some b) ∧ sz' ≤ sz := by
  obtain ⟨D, h1, h2, h3, h4⟩ := h
  obtain ⟨w', hrun, ho, hg⟩ := h1.drop K ht hkey ty
  have hti := h1.tidy K
  have hsz := Maps.size_del (k := kl) hti
  obtain ⟨f1, hu⟩ := upd_exists f kl nil
  refine ⟨w', Maps.size (D.del kl), f1, hrun, ⟨D.del kl, ?_, rfl, fun l => ?_, fun l => ?_⟩, hu, hg.grown, by omega⟩
  · obtain ⟨es, cl, a1, a2, a3, a4⟩ := ho
    refine ⟨es, cl, a1, a2, ?_, a4⟩
    rw [a4]
    simp [Maps.size, length_sorted]
  · by_cases e : l = kl
    · subst e; rw [Maps.atKey_del_same, hu.same]
    · rw [Maps.atKey_del_other e, hu.other _ e, h3]
  · by_cases e : l = kl
    · subst e; rw [Maps.has_del_same, hu.same]; simp
    · rw [Maps.has_del_other e, hu.other _ e]; exact h4 l

theorem VMap.len {t e : TypeId} (h : VMap w k b nil sz f) (ht : Try.prog.underlying t = some (.map k e)) (ty : TypeId) : (Builtin.len_ #[t] ty #[.map (some b)]).run Try.prog w = .ok (.int .i64 sz) w := by
  obtain ⟨D, h1, h2, h3, h4⟩ := h
  rw [h1.len ht ty, h2]
end

/-! ### At the operation -/
section
variable {w : World} {ops : Array Oper} {rest : List Oper} {o : Oper} {a : Act} {Q : Exit → Act → World → Prop}
theorem wpList_vlook (hg : o.guard = none) (m x : Operand) (t : TypeId) (hop : o.op = Op.lookup t m x false) {k e : TypeId} {b : Nat} {nil : Value} {sz : Nat} {f : Lit → Value}
    (K : Keyed Try.prog k) (ht : Try.prog.underlying t = some (.map k e)) (hz : ∀ w, (zeroValue e).run Try.prog w = .ok nil w) (hm : a.eval m = .map (some b)) (h : VMap w k b nil sz f) (key : Value) (kl : Lit) (hx : a.eval x = key) (hkey : keyOf Try.prog k key = some kl)
    (hK : wpList Try.prog ops Q rest (a.put o.dst (f kl)) w) : wpList Try.prog ops Q (o :: rest) a w := by
  refine wpList_plain hg fun K' hK' => ?_
  have hrun := h.look K ht (hz w) hkey
  unfold Oper.wp
  simp [execOp, hop, hm, hx, hrun, Result.andThen]
  exact hK' _ _ hK
theorem wpList_vput (hg : o.guard = none) (m x v : Operand) (t : TypeId) (hop : o.op = Op.mapUpdate t m x v) {k e : TypeId} {b : Nat} {nil : Value} {sz : Nat} {f : Lit → Value}
    (K : Keyed Try.prog k) (ht : Try.prog.underlying t = some (.map k e)) (hm : a.eval m = .map (some b)) (h : VMap w k b nil sz f) (hn : sz < maxLen) (key val : Value) (kl : Lit) (hx : a.eval x = key) (hv : a.eval v = val) (hkey : keyOf Try.prog k key = some kl) (hvn : val ≠ nil)
    (hK : ∀ w' sz' f1, VMap w' k b nil sz' f1 → Upd f f1 kl val → w.grownBy w' (some b) → (f kl ≠ nil → sz' = sz) → (f kl = nil → sz' = sz + 1) → wpList Try.prog ops Q rest (a.put o.dst undef) w') : wpList Try.prog ops Q (o :: rest) a w := by
  refine wpList_plain hg fun K' hK' => ?_
  obtain ⟨w', sz', f1, hrun, r0, r1, r2, r3, r4⟩ := h.put K ht hn hkey hvn
  unfold Oper.wp
  simp [execOp, hop, hm, hx, hv, hrun, Result.andThen]
  exact hK' _ _ (hK w' sz' f1 r0 r1 r2 r3 r4)
theorem wpList_vdel (hg : o.guard = none) (m x : Operand) (t k : TypeId) (hop : o.op = Op.call { callee := Callee.builtin Builtin.delete, args := #[m, x], argTypes := #[t, k] }) {e : TypeId} {b : Nat} {nil : Value} {sz : Nat} {f : Lit → Value}
    (K : Keyed Try.prog k) (ht : Try.prog.underlying t = some (.map k e)) (hm : a.eval m = .map (some b)) (h : VMap w k b nil sz f) (key : Value) (kl : Lit) (hx : a.eval x = key) (hkey : keyOf Try.prog k key = some kl)
    (hK : ∀ w' sz' f1, VMap w' k b nil sz' f1 → Upd f f1 kl nil → w.grownBy w' (some b) → sz' ≤ sz → wpList Try.prog ops Q rest (a.put o.dst (.tuple #[])) w') : wpList Try.prog ops Q (o :: rest) a w := by
  refine wpList_plain hg fun K' hK' => ?_
  obtain ⟨w', sz', f1, hrun, r0, r1, r2, r3⟩ := h.del K ht hkey o.type
  unfold Oper.wp
  simp [execOp, hop, resolve, invoke, builtin, hm, hx, hrun, Result.andThen]
  exact hK' _ _ (hK w' sz' f1 r0 r1 r2 r3)
end

theorem intKeyed : Keyed Try.prog 3 := int_keyed Try.underlying3
theorem keyInt (z : Int) (h1 : -9223372036854775808 ≤ z) (h2 : z ≤ 9223372036854775807) : keyOf Try.prog 3 (.int .i64 z) = some (.int .i64 z) := keyOf_int_mk Try.underlying3 (WalkArith.wf_i64 ⟨h1, h2⟩)
end Go.Proofs.Qxb6603214a
