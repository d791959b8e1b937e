/-
  append at []int64 onto nil or onto a row of the call's own, told sharply: in place, or in a new block with every old block as it was. slices.Clone at int64 (function 17).
-/
import Derived.Test.Qxb6617284aBase
import Derived.Deep.AppendLies
namespace Go.Proofs.Qxb6617284a
set_option linter.unusedVariables false
open Go.RowKit Go.Deep

/-- The slice value v is nil and xs is empty, or v begins at the head of a row, no cell of it frozen, whose first cells are xs. -/
def Own (w : World) (v : Value) (xs : List Int) : Prop := w.ownsRow 0 2 1 v xs.length (xs.map (Value.int .i64))

/-- Where an append onto v has left its row, in block g. -/
def Laid (w w' : World) (v : Value) (g : Nat) : Prop :=
  Below 0 w w' ∧ ((g = w.heap.size ∧ w'.heap.size = w.heap.size + 1 ∧ ∀ k, k < w.heap.size → w'.heap[k]? = w.heap[k]?) ∨
    (v.ownBlock = some g ∧ w'.heap.size = w.heap.size ∧ ∀ k, k ≠ g → w'.heap[k]? = w.heap[k]?))

theorem ints_one (ys : List Int) : ∀ u ∈ ys.map (Value.int .i64), u.oneCell' = true := by
  intro u hu
  obtain ⟨x, _, rfl⟩ := List.mem_map.1 hu
  rfl

theorem cells_ints {w : World} {b o : Nat} {ys : List Int} (hc : ∀ j, j < ys.length → w.cell? ⟨b, o + j, none⟩ = some (.int .i64 (ys[j]?.getD 0))) :
    ∀ j u, (ys.map (Value.int .i64))[j]? = some u → w.cell? ((⟨b, o, none⟩ : Addr).add j) = some u := by
  intro j u hu
  rw [List.getElem?_map] at hu
  have hj : j < ys.length := by
    rcases Nat.lt_or_ge j ys.length with h | h
    · exact h
    · rw [List.getElem?_eq_none h] at hu; cases hu
  have e : (⟨b, o, none⟩ : Addr).add j = ⟨b, o + j, none⟩ := by unfold Addr.add; split <;> simp_all
  rw [e, hc j hj]
  rw [List.getElem?_eq_getElem hj] at hu ⊢
  simpa using hu

theorem run_append_ints (w : World) (ty : TypeId) {v : Value} {xs ys : List Int} (hown : Own w v xs) (b o c : Nat) (hy : 0 < ys.length)
    (hc : ∀ j, j < ys.length → w.cell? ⟨b, o + j, none⟩ = some (.int .i64 (ys[j]?.getD 0))) (hb : (xs.length + ys.length) * 8 ≤ 140737488355328) :
    ∃ g cap w', (Builtin.append_ #[22, 22] ty #[v, .slice (some ⟨b, o, none⟩) ys.length c]).run Try.prog w = .ok (.slice (some ⟨g, 0, none⟩) (xs.length + ys.length) cap) w' ∧
      Own w' (.slice (some ⟨g, 0, none⟩) (xs.length + ys.length) cap) (xs ++ ys) ∧ Laid w w' v g := by
  obtain ⟨i, hi, hz, hs, hby⟩ := info_parts Try.info2
  have hl : (ys.map (Value.int .i64)).length = ys.length * i.size := by simp [hs]
  have hlen : ((xs ++ ys).map (Value.int .i64)).length = (xs.length + ys.length) * i.size := by simp [hs]
  have hm : xs.length + ys.length ≤ maxLen := by simp only [maxLen]; omega
  have grown : ∀ (old : Nat), old < xs.length + ys.length → ∀ (X : Array Value), X = (xs.map (Value.int .i64)).toArray ++ (ys.map (Value.int .i64)).toArray ++ Builtin.zeroCells (Value.int .i64 0).cells (grownCap w (xs.length + ys.length) old 2 - (xs.length + ys.length)) →
      Own (w.drew.alloc (.cells X 2)) (.slice (some ⟨w.heap.size, 0, none⟩) (xs.length + ys.length) (grownCap w (xs.length + ys.length) old 2)) (xs ++ ys) := by
    intro old ho X hX
    have hge := grownCap_ge w (xs.length + ys.length) old 2
    have hcm := grownCap_le_maxLen w (xs.length + ys.length) old 2 hm
    refine ⟨by simp, .inr ⟨w.heap.size, _, _, by simp, Nat.zero_le _, heap_alloc_new w.drew _, by simpa using hge, hcm, ?_, ?_⟩⟩
    · rw [hX]
      simp only [Array.size_append, List.size_toArray, size_zeroCells, List.length_map]
      have : (Value.int IntKind.i64 0).cells.size = 1 := rfl
      rw [this]
      omega
    · rw [hX]
      simp only [Array.toList_append, ← List.map_append]
      rw [show (xs ++ ys).length * 1 = ((xs ++ ys).map (Value.int .i64)).length by simp]
      exact List.take_left
  have new : ∀ X, Laid w (w.drew.alloc (.cells X 2)) v w.heap.size := fun X =>
    ⟨⟨rfl, rfl, rfl, by simp, fun k hk => by omega⟩, .inl ⟨rfl, by simp, fun k hk => Below.heap_alloc w.drew _ k hk⟩⟩
  rcases hown.2 with ⟨rfl, h0⟩ | ⟨g, cap, cur, rfl, _, hg, hnc, hcm, hcs, htake⟩
  · have hx : xs = [] := List.length_eq_zero_iff.1 h0
    subst hx
    have hr := run_append_nil (P := Try.prog) w 22 ty 2 i (.int .i64 0) Try.underlying22 hi hz ⟨b, o, none⟩ ys.length c _ hl (cells_ints hc) (by omega) (by simp at hb; omega) (by rw [hby]; simp at hb; omega)
    have hgr := grown 0 (by simpa using hy) _ rfl
    simp only [List.length_nil, Nat.zero_add, List.map_nil, List.nil_append, Array.empty_append] at hgr hr ⊢
    exact ⟨_, _, _, hr, hgr, new _⟩
  · have hg1 : cap * 1 = cap := Nat.mul_one _
    by_cases hroom : xs.length + ys.length ≤ cap
    · have hfit : xs.length * i.size + (ys.map (Value.int .i64)).length ≤ cur.size := by rw [hl, hcs, hs]; omega
      have hr := run_append_room (P := Try.prog) w 22 ty 2 i Try.underlying22 hi g xs.length cap cur hg ⟨b, o, none⟩ ys.length c _ hl (cells_ints hc) (ints_one ys) hroom hfit
      refine ⟨_, _, _, hr, ⟨by simp, .inr ⟨g, cap, _, by simp, Nat.zero_le _, setRow_heap w g cur _ 2 _ hg, by simpa using hroom, hcm, ?_, ?_⟩⟩, ⟨⟨rfl, rfl, rfl, by simp, fun k hk => by omega⟩, .inr ⟨rfl, by simp, fun k hk => setRow_other w g k _ hk⟩⟩⟩
      · simp only [List.size_toArray, List.length_append, List.length_take, List.length_drop, Array.length_toList, List.length_map, hs]
        simp only [hcs]
        omega
      · rw [hs, htake]
        rw [show (xs ++ ys).length * 1 = ((xs.map (Value.int .i64)) ++ (ys.map (Value.int .i64))).length by simp, List.map_append]
        exact List.take_left
    · have holds : ∀ j u, (xs.map (Value.int .i64))[j]? = some u → w.cell? ((⟨g, 0, none⟩ : Addr).add j) = some u := World.ownsRow.cells hown (g := g) rfl
      have hr := run_append_grow (P := Try.prog) w 22 ty 2 i (.int .i64 0) Try.underlying22 hi hz ⟨g, 0, none⟩ xs.length cap _ (by simp [hs]) holds ⟨b, o, none⟩ ys.length c _ hl (cells_ints hc) (by omega) (by omega) (growslice_fits (by omega) (by rw [hby]; exact hb))
      exact ⟨_, _, _, hr, grown cap (by omega) _ rfl, new _⟩

/-- .. at the operation, for the walk. -/
theorem wpList_append_ints (w : World) {ops : Array Oper} {rest : List Oper} {op : Oper} {a : Act} {Q : Exit → Act → World → Prop} (hgd : op.guard = none) (s x : Operand)
    (ho : op.op = .call { callee := .builtin .append, args := #[s, x], argTypes := #[22, 22] })
    (v : Value) (xs ys : List Int) (hs : a.eval s = v) (hown : Own w v xs) (b o m c : Nat) (hx : a.eval x = .slice (some ⟨b, o, none⟩) m c) (hm : ys.length = m) (hy : 0 < ys.length)
    (hc : ∀ j, j < ys.length → w.cell? ⟨b, o + j, none⟩ = some (.int .i64 (ys[j]?.getD 0))) (hb : (xs.length + ys.length) * 8 ≤ 140737488355328) (T : Nat) (hT : xs.length + ys.length = T)
    (h : ∀ g cap w', Own w' (.slice (some ⟨g, 0, none⟩) T cap) (xs ++ ys) → Laid w w' v g → wpList Try.prog ops Q rest (a.put op.dst (.slice (some ⟨g, 0, none⟩) T cap)) w') :
    wpList Try.prog ops Q (op :: rest) a w := by
  refine wpList_plain hgd fun K' hK' => ?_
  obtain ⟨g, cap, w', hr, h2, h3⟩ := run_append_ints w op.type hown b o c hy hc hb
  subst hm
  rw [hT] at hr h2
  unfold Oper.wp execOp
  simp only [ho, resolve, invoke, builtin, Sem.run_bind, Sem.run_pure, Result.andThen_ok, List.map_toArray, List.map_cons, List.map_nil, hs, hx, hr]
  exact hK' _ _ (h g cap w' h2 h3)

/-- An empty slice literal owns nothing. -/
theorem own_empty (w : World) : Own (w.alloc (.cells #[] 2)) (.slice (some ⟨w.heap.size, 0, none⟩) 0 0) [] :=
  ⟨rfl, .inr ⟨w.heap.size, 0, #[], rfl, Nat.zero_le _, heap_alloc_new w _, Nat.le_refl _, by simp [maxLen], rfl, rfl⟩⟩

/-- slices.Clone at a slice of at least one element: a row of its own, in a new block; every old block as it was. -/
def ClonedQ (w : World) (xs : List Int) (e : Ending) (w' : World) : Prop :=
  ∃ g cap, e = .returned (.slice (some ⟨g, 0, none⟩) xs.length cap) ∧ Own w' (.slice (some ⟨g, 0, none⟩) xs.length cap) xs ∧ w.heap.size ≤ g ∧ g < w'.heap.size ∧ Below w.heap.size w w'

set_option maxHeartbeats 400000 in
theorem sclone_full (b o c : Nat) (ys : List Int) (w : World) (hy : 0 < ys.length) (hb : ys.length * 8 ≤ 140737488355328)
    (hc : ∀ j, j < ys.length → w.cell? ⟨b, o + j, none⟩ = some (.int .i64 (ys[j]?.getD 0))) :
    Calls Try.prog 17 #[.slice (some ⟨b, o, none⟩) ys.length c] w (ClonedQ w ys) := by
  have q22 : ∀ (w : World) (a : Option Addr) (n c : Nat), (binOp .eql 22 (.slice a n c) (.slice none 0 0)).run Try.prog w = .ok (.bool a.isNone) w := fun w a n c => Lib.run_eql_slice_nil w 22 2 a n c 0 0 Try.underlying22
  have hc' : ∀ o', ∀ j, j < ys.length → (w.alloc o').cell? ⟨b, o + j, none⟩ = some (.int .i64 (ys[j]?.getD 0)) := fun o' j hj => (World.cell?_alloc_lt _ _ _ (World.block_lt_of_cell? _ _ (hc j hj))).trans (hc j hj)
  have hown := own_empty w
  go_enter Try.func17, Try.ntmps17
  go_wp2_with (at_builtin; refine wpList_append_ints _ rfl _ _ rfl _ [] ys rfl hown b o _ c rfl rfl hy (hc' _) (by simpa using hb) ys.length (by simp) ?_)
  intro g cap w1 hO hL
  clear hown hc hc'
  go_wp2
  go_ret
  obtain ⟨hB, hL⟩ := hL
  have hsz : (w.alloc (.cells #[] 2)).heap.size = w.heap.size + 1 := by simp
  refine ⟨g, cap, rfl, hO, ?_, ?_, ?_⟩
  · rcases hL with ⟨h1, _, _⟩ | ⟨h1, _, _⟩
    · omega
    · simp [Value.ownBlock] at h1; omega
  · rcases hL with ⟨h1, h2, _⟩ | ⟨h1, h2, _⟩
    · omega
    · simp [Value.ownBlock] at h1; omega
  · refine ⟨hB.os, hB.tape, hB.output, by have := hB.size; omega, fun k hk => ?_⟩
    rcases hL with ⟨h1, h2, h3⟩ | ⟨h1, h2, h3⟩
    · exact (h3 k (by omega)).trans (Below.heap_alloc _ _ _ hk)
    · simp [Value.ownBlock] at h1
      exact (h3 k (by omega)).trans (Below.heap_alloc _ _ _ hk)

theorem sclone_any {w : World} {v : Value} {ys : List Int} (h : Rd w v ys) (h0 : ys ≠ []) (hb : ys.length * 8 ≤ 140737488355328) : Calls Try.prog 17 #[v] w (ClonedQ w ys) := by
  obtain ⟨a1, c1, rfl, l1, m1, r1⟩ := h
  obtain ⟨b, o, rfl, g⟩ := r1 h0
  exact sclone_full b o c1 ys w (List.length_pos_iff.2 h0) hb g

/-! ### what 'Own' gives -/
theorem Own.rd {w : World} {v : Value} {xs : List Int} (h : Own w v xs) : Rd w v xs := by
  rcases h.2 with ⟨rfl, h0⟩ | ⟨g, cap, cur, rfl, _, hg, hnc, hcm, hcs, htake⟩
  · have hx : xs = [] := List.length_eq_zero_iff.1 h0
    subst hx
    exact ⟨none, 0, rfl, Nat.le_refl _, by omega, fun h => absurd rfl h⟩
  · refine ⟨_, cap, rfl, hnc, by simpa [maxLen] using hcm, fun _ => ⟨g, 0, rfl, fun j hj => ?_⟩⟩
    have e := World.ownsRow.cells h (g := g) rfl j (.int .i64 (xs[j]?.getD 0)) (by rw [List.getElem?_map, List.getElem?_eq_getElem hj]; rfl)
    have e2 : (⟨g, 0, none⟩ : Addr).add j = ⟨g, 0 + j, none⟩ := by unfold Addr.add; split <;> simp_all
    rw [← e2]; exact e

/-- 'Own' looks at its own block alone. -/
theorem Own.kept {w w' : World} {v : Value} {xs : List Int} (h : Own w v xs) (hb : ∀ g, v.ownBlock = some g → w'.heap[g]? = w.heap[g]?) : Own w' v xs := by
  refine ⟨h.1, ?_⟩
  rcases h.2 with hn | ⟨g, cap, cur, rfl, h1, hgg, rest⟩
  · exact .inl hn
  · exact .inr ⟨g, cap, cur, rfl, h1, (hb g rfl).trans hgg, rest⟩

theorem Own.lt {w : World} {v : Value} {xs : List Int} (h : Own w v xs) {g : Nat} (hg : v.ownBlock = some g) : g < w.heap.size := (World.ownsRow.lt h g hg).2

/-- What a value that owns something looks like. -/
theorem Own.form {w : World} {v : Value} {xs : List Int} (h : Own w v xs) : (v = .slice none 0 0 ∧ xs = []) ∨ ∃ g cap, v = .slice (some ⟨g, 0, none⟩) xs.length cap ∧ xs.length ≤ cap ∧ cap ≤ 9223372036854775807 ∧ v.ownBlock = some g := by
  rcases h.2 with ⟨rfl, h0⟩ | ⟨g, cap, cur, rfl, _, hg, hnc, hcm, hcs, htake⟩
  · exact .inl ⟨rfl, List.length_eq_zero_iff.1 h0⟩
  · exact .inr ⟨g, cap, rfl, hnc, by simpa [maxLen] using hcm, rfl⟩

/-- A new block that holds a list. -/
theorem own_alloc (w : World) (xs : List Int) (hm : xs.length ≤ 9223372036854775807) : Own (w.alloc (.cells (ints xs) 2)) (.slice (some ⟨w.heap.size, 0, none⟩) xs.length xs.length) xs :=
  ⟨by simp, .inr ⟨w.heap.size, xs.length, ints xs, rfl, Nat.zero_le _, heap_alloc_new w _, Nat.le_refl _, by simpa [maxLen] using hm, by simp [ints_size], by simp only [ints]; exact List.take_of_length_le (by simp)⟩⟩

/-- A beginning of what is owned, read through the same row with its capacity cut. -/
theorem Own.begins_rd {w : World} {g cap : Nat} {xs : List Int} (h : Own w (.slice (some ⟨g, 0, none⟩) xs.length cap) xs) {n c : Nat} (hn : n ≤ xs.length) (hc : n ≤ c) (hm : c ≤ 9223372036854775807) : Rd w (.slice (some ⟨g, 0, none⟩) n c) (xs.take n) := by
  obtain ⟨a, c', he, l, m, r⟩ := h.rd
  have hl : (xs.take n).length = n := by simp; omega
  refine ⟨some ⟨g, 0, none⟩, c, by rw [hl], by omega, hm, fun h0 => ⟨g, 0, rfl, fun j hj => ?_⟩⟩
  have hx : xs ≠ [] := by intro e; subst e; simp at h0
  obtain ⟨b, o, hbo, hcell⟩ := r hx
  simp only [Value.slice.injEq] at he
  rw [← he.1] at hbo
  simp only [Option.some.injEq, Addr.mk.injEq] at hbo
  obtain ⟨rfl, rfl, _⟩ := hbo
  rw [hcell j (by omega), List.getElem?_take, if_pos (by omega)]

end Go.Proofs.Qxb6617284a
