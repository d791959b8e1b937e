/-
  keep, for the law on two keeps: a keep that changes nothing more; a keep that lengthens its key's list; what either leaves alone.
-/
import Derived.Test.Qxb6617284aInv
namespace Go.Proofs.Qxb6617284a
set_option linter.unusedVariables false
open Go.RowKit Go.Deep Go.Maps

/-- What a keep that changes no entry has done: old memory is as it was; its answer shares the entry's row just where the list is not empty and agrees. -/
def IdleQ (w : World) (F : Int → Option (Value × List Int)) (key : Int) (ls : List Int) (e : Ending) (w' : World) : Prop :=
  ∃ g c, e = .returned (.slice (some ⟨g, 0, none⟩) ls.length c) ∧ Rd w' (.slice (some ⟨g, 0, none⟩) ls.length c) ls ∧ Below w.heap.size w w' ∧
    ((ls ≠ [] ∧ agr ls (entL F key) = true) → ∃ cap, entV F key = .slice (some ⟨g, 0, none⟩) (entL F key).length cap) ∧ (¬ (ls ≠ [] ∧ agr ls (entL F key) = true) → w.heap.size ≤ g)

theorem keep_idle {w : World} {l M : Nat} {sc : Value} {F : Int → Option (Value × List Int)} {n : Nat} (hst : LSt w l M sc F n) {key : Int} (hk : (Lit.int .i64 key).wf = true) (hn : n < maxLen) {lv : Value} {ls : List Int} (hrd : Rd w lv ls) (hbig : ls.length * 8 ≤ 140737488355328)
    (hid : ls = [] ∨ agr ls (entL F key) = false ∨ ls.length ≤ (entL F key).length) :
    Calls Try.prog 10 #[.pointer (some ⟨l, 0, none⟩), .int .i64 key, lv] w (IdleQ w F key ls) := by
  refine (zzkeep_any hst hk hn hrd hbig).mono ?_
  intro e w' hq
  rcases hq with ⟨h0, rfl, rfl⟩ | ⟨h0, hag, g, cap, rfl, ho, hg1, hg2, hb⟩ | ⟨h0, hag, hle, ⟨g, cap, hv, rfl⟩, m, rfl⟩ | ⟨h0, hag, hlt, _⟩
  · subst h0
    exact ⟨w.heap.size, 0, rfl, ⟨_, 0, rfl, Nat.le_refl _, by omega, fun h => absurd rfl h⟩, (Below.refl _ _).alloc (Nat.le_refl _) _, fun h => absurd rfl h.1, fun _ => Nat.le_refl _⟩
  · exact ⟨g, cap, rfl, ho.rd, hb, fun h => (by rw [hag] at h; exact absurd h.2 (by simp)), fun _ => hg1⟩
  · have ho := hst.ent key
    rw [hv] at ho
    have hr := ho.begins_rd (n := ls.length) (c := ls.length) hle (Nat.le_refl _) (by omega)
    rw [agr_short hle] at hag
    rw [← of_decide_eq_true hag] at hr
    exact ⟨g, ls.length, rfl, hr, ⟨rfl, rfl, rfl, Nat.le_refl _, fun _ _ => rfl⟩, fun _ => ⟨cap, hv⟩, fun h => absurd ⟨h0, by rw [agr_short hle]; exact hag⟩ h⟩
  · rcases hid with h | h | h
    · exact absurd h h0
    · rw [hag] at h; cases h
    · omega

/-- A value whose row is no entry's. -/
def Far (F : Int → Option (Value × List Int)) (v : Value) : Prop := ∀ g, v.ownBlock = some g → ∀ k v' xs', F k = some (v', xs') → v'.ownBlock ≠ some g

/-- What a keep that lengthens its key's list has done. -/
def MoreQ (w : World) (l M : Nat) (sc : Value) (F : Int → Option (Value × List Int)) (n : Nat) (key : Int) (ls : List Int) (e : Ending) (w' : World) : Prop :=
  ∃ g cap, e = .returned (.slice (some ⟨g, 0, none⟩) ls.length ls.length) ∧ LSt w' l M sc (upd F key (.slice (some ⟨g, 0, none⟩) ls.length cap, ls)) (if (F key).isSome then n else n + 1) ∧
    (∀ v ys, Own w v ys → Far F v → Own w' v ys ∧ Far (upd F key (.slice (some ⟨g, 0, none⟩) ls.length cap, ls)) v) ∧
    (∀ b f c, b ≠ M → MapIs w b f c → MapIs w' b f c) ∧
    (∀ B, B ≤ w.heap.size → B ≤ M → (∀ k v xs g, F k = some (v, xs) → v.ownBlock = some g → B ≤ g) → Below B w w' ∧ B ≤ g)

theorem keep_more {w : World} {l M : Nat} {sc : Value} {F : Int → Option (Value × List Int)} {n : Nat} (hst : LSt w l M sc F n) {key : Int} (hk : (Lit.int .i64 key).wf = true) (hn : n < maxLen) {lv : Value} {ls : List Int} (hrd : Rd w lv ls) (hbig : ls.length * 8 ≤ 140737488355328)
    (h1 : agr ls (entL F key) = true) (h2 : (entL F key).length < ls.length) :
    Calls Try.prog 10 #[.pointer (some ⟨l, 0, none⟩), .int .i64 key, lv] w (MoreQ w l M sc F n key ls) := by
  refine (zzkeep_any hst hk hn hrd hbig).mono ?_
  intro e w' hq
  rcases hq with ⟨h0, _⟩ | ⟨h0, hag, _⟩ | ⟨h0, hag, hle, _⟩ | ⟨h0, hag, hlt, g, cap, rfl, hls, hb, hg2, hat, hfr⟩
  · subst h0; simp at h2
  · rw [h1] at hag; cases hag
  · omega
  · -- the row that has grown, or the new one, is no far value's
    have hent : ∀ v, Far F v → ∀ g', v.ownBlock = some g' → (entV F key).ownBlock ≠ some g' := by
      intro v hv g' hg' he
      cases hF : F key with
      | none => simp [entV, hF, Value.ownBlock] at he
      | some p => simp [entV, hF] at he; exact hv g' hg' key p.1 p.2 hF he
    refine ⟨g, cap, rfl, hls, ?_, ?_, ?_⟩
    · intro v ys ho hf
      have hne : ∀ g', v.ownBlock = some g' → g' ≠ g := by
        intro g' hg' e
        subst e
        rcases hat with h | h
        · have := ho.lt hg'; omega
        · exact hent v hf g' hg' h
      refine ⟨ho.kept (fun g' hg' => hfr g' (ho.lt hg') (hst.row_ne ho hg').2 (hne g' hg')), fun g' hg' k v' xs' hk he => ?_⟩
      by_cases hkk : k = key
      · subst hkk
        rw [upd_same] at hk
        simp only [Option.some.injEq, Prod.mk.injEq] at hk
        obtain ⟨rfl, _⟩ := hk
        simp [Value.ownBlock] at he
        exact hne g' hg' he.symm
      · rw [upd_other _ _ hkk] at hk
        exact hf g' hg' k v' xs' hk he
    · intro b f c hbM hm
      refine hm.kept (hfr b hm.lt hbM ?_)
      intro e
      obtain ⟨es, clock, hbb⟩ := hm.block
      rcases hat with h | h
      · have := hm.lt; omega
      · have ho := hst.ent key
        rcases ho.2 with ⟨q, _⟩ | ⟨g', cap', cur, q, _, hgg, _⟩
        · rw [q] at h; simp [Value.ownBlock] at h
        · rw [q] at h
          simp [Value.ownBlock] at h
          rw [← e] at h
          rw [h, hbb] at hgg
          cases hgg
    · intro B hB1 hB2 hB3
      have hgB : B ≤ g := by
        rcases hat with h | h
        · omega
        · cases hF : F key with
          | none => simp [entV, hF, Value.ownBlock] at h
          | some p => simp [entV, hF] at h; exact hB3 key p.1 p.2 g hF h
      exact ⟨⟨hb.os, hb.tape, hb.output, hb.size, fun k hk => hfr k (by omega) (by omega) (by omega)⟩, hgB⟩

end Go.Proofs.Qxb6617284a
