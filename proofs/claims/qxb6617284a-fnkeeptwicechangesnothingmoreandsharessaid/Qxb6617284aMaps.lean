/-
  A map keyed by int64 as a function from keys to VALUES (shallow: what a value leads to is told apart). Over the kit's 'ownsMap', the element's reading being the value itself as a token.
-/
import Derived.Test.Qxb6617284aBase
import Derived.Maps.OwnSet
namespace Go.Proofs.Qxb6617284a
set_option linter.unusedVariables false
open Go.RowKit Go.Maps

theorem law2 : Keyed Try.prog 2 := int_keyed Try.underlying2

/-- An element reads as itself. -/
def RV (v : Value) : Option (DataW Value × List MemPlace) := some (.held v, [])

/-- Block b of w is a map keyed by int64 that holds just f, c entries. -/
def MapIs (w : World) (b : Nat) (f : Int → Option Value) (c : Nat) : Prop :=
  ∃ D : DataW Value, w.ownsMap Try.prog 2 RV b c D ∧ Maps.size D = c ∧ ∀ k, (Lit.int .i64 k).wf = true → ∀ z, D.atKey (.int .i64 k) z = match f k with | some v => .held v | none => z

/-- f with v at k. -/
def upd {α : Type} (f : Int → Option α) (k : Int) (v : α) : Int → Option α := fun k' => if k' = k then some v else f k'
theorem upd_same {α : Type} (f : Int → Option α) (k : Int) (v : α) : upd f k v k = some v := by simp [upd]
theorem upd_other {α : Type} (f : Int → Option α) {k k' : Int} (v : α) (h : k' ≠ k) : upd f k v k' = f k' := by simp [upd, h]

theorem mapIs_made (w : World) : MapIs (w.alloc (.map #[] 0)) w.heap.size (fun _ => none) 0 :=
  ⟨.map [], World.ownsMap_made w Try.prog 2 RV, rfl, fun k _ z => rfl⟩

theorem MapIs.kept {w w' : World} {b c : Nat} {f : Int → Option Value} (h : MapIs w b f c) (hb : w'.heap[b]? = w.heap[b]?) : MapIs w' b f c := by
  obtain ⟨D, ⟨es, clock, hbb, r⟩, hs, ha⟩ := h
  exact ⟨D, ⟨es, clock, hb.trans hbb, r⟩, hs, ha⟩

theorem MapIs.block {w : World} {b c : Nat} {f : Int → Option Value} (h : MapIs w b f c) : ∃ es clock, w.heap[b]? = some (.map es clock) := by
  obtain ⟨D, ⟨es, clock, hbb, r⟩, hs, ha⟩ := h
  exact ⟨es, clock, hbb⟩

theorem MapIs.lt {w : World} {b c : Nat} {f : Int → Option Value} (h : MapIs w b f c) : b < w.heap.size := by
  obtain ⟨D, h1, _⟩ := h
  exact h1.lt

theorem MapIs.congr {w : World} {b c : Nat} {f g : Int → Option Value} (h : MapIs w b f c) (e : ∀ k, (Lit.int .i64 k).wf = true → f k = g k) : MapIs w b g c := by
  obtain ⟨D, h1, hs, ha⟩ := h
  exact ⟨D, h1, hs, fun k hk z => by rw [← e k hk]; exact ha k hk z⟩

theorem MapIs.look {w : World} {b c : Nat} {f : Int → Option Value} (h : MapIs w b f c) {t e : TypeId} (ht : Try.prog.underlying t = some (.map 2 e)) {z : Value} (hz : (zeroValue e).run Try.prog w = .ok z w) {k : Int} (hk : (Lit.int .i64 k).wf = true) :
    (Instr.lookup t (.map (some b)) (.int .i64 k) false).run Try.prog w = .ok ((f k).getD z) w := by
  obtain ⟨D, h1, hs, ha⟩ := h
  obtain ⟨v, ps, hr, hv⟩ := h1.lookup law2 ht hz (zd := .held z) (zp := []) rfl (keyOf_int_mk Try.underlying2 hk)
  rw [hr]
  simp only [RV, Option.some.injEq, Prod.mk.injEq] at hv
  have h2 := hv.1
  rw [ha k hk] at h2
  cases hf : f k with
  | none => rw [hf] at h2; simp only [DataW.held.injEq] at h2; rw [h2]; rfl
  | some x => rw [hf] at h2; simp only [DataW.held.injEq] at h2; rw [h2]; rfl

theorem MapIs.has {w : World} {b c : Nat} {f : Int → Option Value} {D : DataW Value} (ha : ∀ k, (Lit.int .i64 k).wf = true → ∀ z, D.atKey (.int .i64 k) z = match f k with | some v => .held v | none => z) {k : Int} (hk : (Lit.int .i64 k).wf = true) :
    Maps.has D (.int .i64 k) = (f k).isSome := by
  cases hf : f k with
  | none => exact has_false_of_atKey (fun z => by rw [ha k hk, hf])
  | some x => exact has_true_of_atKey (y := .held x) (fun z => by rw [ha k hk, hf])

theorem MapIs.look_ok {w : World} {b c : Nat} {f : Int → Option Value} (h : MapIs w b f c) {t e : TypeId} (ht : Try.prog.underlying t = some (.map 2 e)) {z : Value} (hz : (zeroValue e).run Try.prog w = .ok z w) {k : Int} (hk : (Lit.int .i64 k).wf = true) :
    (Instr.lookup t (.map (some b)) (.int .i64 k) true).run Try.prog w = .ok (.tuple #[(f k).getD z, .bool (f k).isSome]) w := by
  obtain ⟨D, h1, hs, ha⟩ := h
  obtain ⟨v, ps, hr, hv⟩ := h1.look_ok law2 ht hz (zd := .held z) (zp := []) rfl (keyOf_int_mk Try.underlying2 hk)
  rw [hr, MapIs.has (w := w) (b := b) (c := c) ha hk]
  simp only [RV, Option.some.injEq, Prod.mk.injEq] at hv
  have h2 := hv.1
  rw [ha k hk] at h2
  cases hf : f k with
  | none => rw [hf] at h2; simp only [DataW.held.injEq] at h2; rw [h2]; rfl
  | some x => rw [hf] at h2; simp only [DataW.held.injEq] at h2; rw [h2]; rfl

theorem MapIs.len {w : World} {b c : Nat} {f : Int → Option Value} (h : MapIs w b f c) {t e : TypeId} (ht : Try.prog.underlying t = some (.map 2 e)) (ty : TypeId) :
    (Builtin.len_ #[t] ty #[.map (some b)]).run Try.prog w = .ok (.int .i64 c) w := by
  obtain ⟨D, h1, hs, ha⟩ := h
  rw [h1.len ht ty, hs]

theorem keyLit (k : Int) : WideAt.IsKeyLit (.int .i64 k) := trivial

theorem MapIs.store {w : World} {b c : Nat} {f : Int → Option Value} (h : MapIs w b f c) {t e : TypeId} (ht : Try.prog.underlying t = some (.map 2 e)) (hc : c < maxLen) {k : Int} (hk : (Lit.int .i64 k).wf = true) (v : Value) :
    ∃ w', (Instr.mapUpdate t (.map (some b)) (.int .i64 k) v).run Try.prog w = .ok () w' ∧ MapIs w' b (upd f k v) (if (f k).isSome then c else c + 1) ∧ w.grownBy w' (some b) ∧ w'.heap.size = w.heap.size := by
  obtain ⟨D, h1, hs, ha⟩ := h
  obtain ⟨w', hr, h2, h3⟩ := h1.store law2 ht hc (keyOf_int_mk Try.underlying2 hk) (d := .held v) (ps := []) rfl
  have hsz : Maps.size (D.put (.int .i64 k) (.held v)) = if (f k).isSome then c else c + 1 := by
    rw [size_put (h1.tidy law2), hs, MapIs.has (w := w) (b := b) (c := c) ha hk]
  refine ⟨w', hr, ⟨D.put (.int .i64 k) (.held v), ?_, hsz, ?_⟩, h3.grown, ?_⟩
  · obtain ⟨es, clock, hbb, F, hle, hD⟩ := h2
    refine ⟨es, clock, hbb, F, ?_, hD⟩
    rw [← hsz, hD]
    simp [Maps.size, length_sorted]
  · intro k' hk' z
    by_cases hkk : k' = k
    · subst hkk
      rw [atKey_put_same h1.isMap (keyLit _), upd_same]
    · rw [atKey_put_other (by simpa using hkk), ha k' hk', upd_other _ _ hkk]
  · obtain ⟨es, clock, es', clock', hb, rfl⟩ := h3
    simp [Go.ChangeMaps.setBlock]

end Go.Proofs.Qxb6617284a
