/-
  slices.Clone at records (function 9), ZZIndexWithRecords (6), Records (7).
-/
import Derived.Test.Qxb6617509aCopy
namespace Go.Proofs.Qxb6617509a
set_option linter.unusedVariables false
open Go.RowKit Go.Deep

/-- Cell i of a row of records. -/
def cellF (S : Nat → ByteArray) (N : Nat → Int) (i : Nat) : Value := if i % 2 = 0 then .string (S (i / 2)) else .int .i64 (N (i / 2))
def news (n : Nat) (S : Nat → ByteArray) (N : Nat → Int) : List Value := (List.range (n * 2)).map (cellF S N)

theorem news_len (n : Nat) (S : Nat → ByteArray) (N : Nat → Int) : (news n S N).length = n * 2 := by simp [news]
theorem news_even {n : Nat} {S : Nat → ByteArray} {N : Nat → Int} {j : Nat} (h : j < n) : (news n S N)[j * 2]? = some (.string (S j)) := by
  have h2 : j * 2 < n * 2 := by omega
  simp [news, List.getElem?_range h2, cellF]
theorem news_odd {n : Nat} {S : Nat → ByteArray} {N : Nat → Int} {j : Nat} (h : j < n) : (news n S N)[j * 2 + 1]? = some (.int .i64 (N j)) := by
  have h2 : j * 2 + 1 < n * 2 := by omega
  have h3 : (j * 2 + 1) % 2 = 1 := by omega
  have h4 : (j * 2 + 1) / 2 = j := by omega
  simp [news, List.getElem?_range h2, cellF, h3, h4]
theorem news_cells {w : World} {b o n : Nat} {S : Nat → ByteArray} {N : Nat → Int} (h : RecsAt w b o n S N) : ∀ j v, (news n S N)[j]? = some v → w.cell? ((⟨b, o, none⟩ : Addr).add j) = some v := by
  intro j v hv
  have hj : j < n * 2 := by
    have := (List.getElem?_eq_some_iff.1 hv).1
    rwa [news_len] at this
  rw [Addr.add_mid]
  obtain ⟨m, hm⟩ : ∃ m, m = j / 2 := ⟨_, rfl⟩
  have hmn : m < n := by omega
  rcases Nat.mod_two_eq_zero_or_one j with h2 | h2
  · obtain rfl : j = m * 2 := by omega
    rw [news_even hmn] at hv
    rw [(h m hmn).1]; exact hv
  · obtain rfl : j = m * 2 + 1 := by omega
    rw [news_odd hmn] at hv
    rw [← Nat.add_assoc, (h m hmn).2]; exact hv

/-- A row of records of the call's own, in block g, that came to be between w and w'. -/
structure Made (w : World) (n : Nat) (S : Nat → ByteArray) (N : Nat → Int) (g cap : Nat) (w' : World) : Prop where
  cap1 : n ≤ cap
  cap2 : cap ≤ 9223372036854775807
  bel : Below w.heap.size w w'
  lo : w.heap.size ≤ g
  hi : g < w'.heap.size
  wri : w'.there g 0 (n * 2)
  got : RecsAt w' g 0 n S N

theorem run_clone (w0 : World) (ty : TypeId) (a : Addr) (n c : Nat) (S : Nat → ByteArray) (N : Nat → Int) (hc : ∀ j v, (news n S N)[j]? = some v → (w0.alloc (.cells #[] 28)).cell? (a.add j) = some v) (hn : n ≤ 32768) :
    ∃ g cap w', (Builtin.append_ #[27, 27] ty #[.slice (some ⟨w0.heap.size, 0, none⟩) 0 0, .slice (some a) n c]).run Try.prog (w0.alloc (.cells #[] 28)) = .ok (.slice (some ⟨g, 0, none⟩) n cap) w' ∧ Made w0 n S N g cap w' := by
  obtain ⟨i, hi, hz, hs, hby⟩ := info_parts Try.info28
  have hl : (news n S N).length = n * i.size := by rw [news_len, hs]
  by_cases h0 : n = 0
  · subst h0
    have hr := run_append_room (P := Try.prog) (w0.alloc (.cells #[] 28)) 27 ty 28 i Try.underlying27 hi w0.heap.size 0 0 #[] (heap_alloc_new w0 _) a 0 c _ hl hc (by simp [news]) (by omega) (by simp [news])
    refine ⟨_, _, _, hr, by omega, by omega, ⟨rfl, rfl, rfl, by simp, fun k hk => (setRow_other _ _ _ _ (by omega)).trans (Below.heap_alloc _ _ _ hk)⟩, Nat.le_refl _, by simp, fun j hj => by omega, fun j hj => by omega⟩
  · have hr := run_append_grow (P := Try.prog) (w0.alloc (.cells #[] 28)) 27 ty 28 i _ Try.underlying27 hi hz ⟨w0.heap.size, 0, none⟩ 0 0 [] (by simp) (by simp) a n c _ hl hc (by omega) (by omega) (growslice_fits (by omega) (by rw [hby]; omega))
    rw [Nat.zero_add] at hr
    have hge := grownCap_ge (w0.alloc (.cells #[] 28)) n 0 28
    have hcm := grownCap_le_maxLen (w0.alloc (.cells #[] 28)) n 0 28 (by simp only [maxLen]; omega)
    have hsz : (w0.alloc (.cells #[] 28)).heap.size = w0.heap.size + 1 := by simp
    generalize hX : ([].toArray ++ (news n S N).toArray ++ Builtin.zeroCells (Value.agg #[.string "".toUTF8, .int .i64 0]).cells (grownCap (w0.alloc (.cells #[] 28)) n 0 28 - n)) = X at hr
    have hXj : ∀ j, j < n * 2 → X[j]? = (news n S N)[j]? := fun j hj => by
      rw [← hX, Array.getElem?_append_left (by simp [news_len]; omega)]
      simp
    have hcell : ∀ j, ((w0.alloc (.cells #[] 28)).drew.alloc (.cells X 28)).cell? ⟨(w0.alloc (.cells #[] 28)).heap.size, j, none⟩ = X[j]? := fun j => World.cell?_alloc_at (w := (w0.alloc (.cells #[] 28)).drew) X 28 _ j rfl
    refine ⟨_, _, _, hr, hge, by simpa [maxLen] using hcm, ⟨rfl, rfl, rfl, by simp; omega, fun k hk => (Below.heap_alloc _ _ _ (by show k < (w0.alloc _).heap.size; omega)).trans (Below.heap_alloc _ _ _ hk)⟩, by omega, by simp, fun j hj => ⟨?_, World.frozen?_alloc_at (w := (w0.alloc (.cells #[] 28)).drew) X 28 _ _ rfl⟩, fun j hj => ⟨?_, ?_⟩⟩
    · rw [hcell, Nat.zero_add, hXj j hj, List.getElem?_eq_getElem (by rw [news_len]; exact hj)]; rfl
    · rw [hcell, Nat.zero_add, hXj _ (by omega), news_even hj]
    · rw [hcell, Nat.zero_add, hXj _ (by omega), news_odd hj]

theorem wpList_clone (w0 : World) {ops : Array Oper} {rest : List Oper} {op : Oper} {a : Act} {Q : Exit → Act → World → Prop} (hgd : op.guard = none) (s x : Operand)
    (ho : op.op = .call { callee := .builtin .append, args := #[s, x], argTypes := #[27, 27] })
    (hs : a.eval s = .slice (some ⟨w0.heap.size, 0, none⟩) 0 0) (b : Addr) (n c : Nat) (S : Nat → ByteArray) (N : Nat → Int) (hx : a.eval x = .slice (some b) n c)
    (hc : ∀ j v, (news n S N)[j]? = some v → (w0.alloc (.cells #[] 28)).cell? (b.add j) = some v) (hn : n ≤ 32768)
    (h : ∀ g cap w', Made w0 n S N g cap w' → wpList Try.prog ops Q rest (a.put op.dst (.slice (some ⟨g, 0, none⟩) n cap)) w') :
    wpList Try.prog ops Q (op :: rest) a (w0.alloc (.cells #[] 28)) := by
  refine wpList_plain hgd fun K' hK' => ?_
  obtain ⟨g, cap, w', hr, h2⟩ := run_clone w0 op.type b n c S N hc hn
  unfold Oper.wp execOp
  simp only [ho, resolve, invoke, builtin, Sem.run_bind, Sem.run_pure, Result.andThen_ok, List.map_toArray, List.map_cons, List.map_nil, hs, hx, hr]
  exact hK' _ _ (h g cap w' h2)

theorem clone_nil (w : World) : Calls Try.prog 9 #[.slice none 0 0] w fun e w' => e = .returned (.slice none 0 0) ∧ w' = w := by
  have q27 := q27
  go_enter Try.func9, Try.ntmps9
  go_wp2
  go_ret
  exact ⟨rfl, rfl⟩

def ClonedQ (w : World) (n : Nat) (S : Nat → ByteArray) (N : Nat → Int) (e : Ending) (w' : World) : Prop :=
  ∃ g cap, e = .returned (.slice (some ⟨g, 0, none⟩) n cap) ∧ Made w n S N g cap w'

set_option maxHeartbeats 400000 in
theorem clone_some' (a : Addr) (n c : Nat) (S : Nat → ByteArray) (N : Nat → Int) (w : World) (hc : ∀ o' j v, (news n S N)[j]? = some v → (w.alloc o').cell? (a.add j) = some v) (hn : n ≤ 32768) :
    Calls Try.prog 9 #[.slice (some a) n c] w (ClonedQ w n S N) := by
  have q27 := q27
  have H := hidIt hc
  clear hc
  go_enter Try.func9, Try.ntmps9
  go_wp2_with (at_builtin; refine wpList_clone w rfl _ _ rfl rfl a n c S N rfl (H.out _) hn ?_)
  intro g cap w1 hM
  have HM := hidIt hM
  clear hM
  go_wp2
  go_ret
  exact ⟨g, cap, rfl, HM.out⟩

theorem clone_some {w : World} {a : Addr} {n c : Nat} {S : Nat → ByteArray} {N : Nat → Int} (h : Rd w (.slice (some a) n c) n S N) (hn : n ≤ 32768) : Calls Try.prog 9 #[.slice (some a) n c] w (ClonedQ w n S N) := by
  obtain ⟨a1, c1, he, l1, m1, _, r1⟩ := h
  simp only [Value.slice.injEq] at he
  obtain ⟨rfl, _, rfl⟩ := he
  refine clone_some' a n c S N w ?_ hn
  by_cases h0 : 0 < n
  · obtain ⟨b, o, he, g⟩ := r1 h0
    simp only [Option.some.injEq] at he
    subst he
    exact fun o' => news_cells (g.kept (Below.heap_alloc _ _ _ (World.block_lt_of_cell? _ _ (g 0 h0).1)))
  · obtain rfl : n = 0 := by omega
    intro o' j v hv
    simp [news] at hv

/-! ### ZZIndexWithRecords, Records -/
theorem zero51 : (Try.prog.info? 51).map (fun i => i.zero.map (fun z => z.cells.size)) = some (some 1036) := by kernel_rfl

theorem built51 (v : Value) (hv : v.cells = #[v]) : ∃ C : Array Value, Try.prog.built 51 [(5, v)] = some C ∧ C[1034]? = some v := by
  obtain ⟨it, hit, hzz⟩ := Option.map_eq_some_iff.1 zero51
  obtain ⟨z, hz, hsz⟩ := Option.map_eq_some_iff.1 hzz
  have hp : ∀ fs, Try.prog.underlying 51 = some (.struct fs) → fs.toList.mapM (fun f => (Try.prog.info? f.type).map fun i => (f.offset, i.size)) = some [(0, 1), (1, 771), (772, 1), (773, 256), (1029, 5), (1034, 1), (1035, 1)] := by
    intro fs hfs
    rw [Try.underlying51] at hfs
    simp only [Option.some.injEq, TypeDesc.struct.injEq] at hfs
    subst hfs
    kernel_rfl
  unfold Program.built
  rw [hit, Try.underlying51]
  simp only [hz, hp _ Try.underlying51]
  refine ⟨z.cells.setIfInBounds 1034 v, ?_, ?_⟩
  · simp [Instr.fill, hv, hsz]
  · rw [Array.getElem?_setIfInBounds_self_of_lt (by omega)]

theorem wpList_build51 {w : World} {ops : Array Oper} {rest : List Oper} {op : Oper} {a : Act} {Q : Exit → Act → World → Prop} {x : Operand} {v : Value} (C : Array Value) (hC : Try.prog.built 51 [(5, v)] = some C) (hgd : op.guard = none)
    (ho : op.op = .build 51 #[(5, x)]) (hx : a.eval x = v) (h : wpList Try.prog ops Q rest (a.put op.dst (.agg C)) w) : wpList Try.prog ops Q (op :: rest) a w := by
  refine wpList_plain hgd fun K' hK' => ?_
  have hr : (Instr.build 51 #[(5, v)]).run Try.prog w = .ok (.agg C) w := run_build w 51 _ _ hC
  unfold Oper.wp execOp
  simp only [ho, Sem.run_bind, Sem.run_pure, Result.andThen_ok, List.map_toArray, List.map_cons, List.map_nil, hx, hr]
  exact hK' _ _ h

def IndexQ (w : World) (v : Value) (e : Ending) (w' : World) : Prop :=
  e = .returned (.pointer (some ⟨w.heap.size, 0, none⟩)) ∧ Below w.heap.size w w' ∧ w'.heap.size = w.heap.size + 1 ∧ w'.cell? ⟨w.heap.size, 1034, none⟩ = some v

set_option maxHeartbeats 400000 in
theorem index_any (a : Option Addr) (n c : Nat) (w : World) : Calls Try.prog 6 #[.slice a n c] w (IndexQ w (.slice a n c)) := by
  obtain ⟨C, hC, hCv⟩ := built51 (.slice a n c) rfl
  have HC := hidIt hC
  have H := hidIt hCv
  clear hC hCv
  go_enter Try.func6, Try.ntmps6
  go_wp2_with (refine wpList_build51 C HC.out rfl rfl rfl ?_)
  go_ret
  refine ⟨rfl, ⟨rfl, rfl, rfl, by simp, fun k hk => Below.heap_alloc _ _ _ hk⟩, by simp, ?_⟩
  rw [World.cell?_alloc_at C 51 _ _ rfl]
  exact H.out

/-- Records, at an index that holds v: what slices.Clone makes of v. -/
theorem records_some {w : World} {g : Nat} {a : Addr} {n c : Nat} {S : Nat → ByteArray} {N : Nat → Int} (hg : w.cell? ⟨g, 1034, none⟩ = some (.slice (some a) n c)) (h : Rd w (.slice (some a) n c) n S N) (hn : n ≤ 32768) :
    Calls Try.prog 7 #[.pointer (some ⟨g, 0, none⟩)] w (ClonedQ w n S N) := by
  have H := hidIt (clone_some h hn)
  clear h
  go_enter Try.func7, Try.ntmps7
  go_wp2_with fail
  refine H.out.mono ?_
  rintro e w1 ⟨g1, cap, rfl, hM⟩
  have HM := hidIt hM
  clear hM
  go_wp2
  go_ret
  exact ⟨g1, cap, rfl, HM.out⟩

theorem records_nil {w : World} {g : Nat} (hg : w.cell? ⟨g, 1034, none⟩ = some (.slice none 0 0)) : Calls Try.prog 7 #[.pointer (some ⟨g, 0, none⟩)] w fun e w' => e = .returned (.slice none 0 0) ∧ w' = w := by
  have H := hidIt (clone_nil w)
  go_enter Try.func7, Try.ntmps7
  go_wp2_with fail
  refine H.out.mono ?_
  rintro e w1 ⟨rfl, rfl⟩
  go_wp2
  go_ret
  exact ⟨rfl, rfl⟩

end Go.Proofs.Qxb6617509a
