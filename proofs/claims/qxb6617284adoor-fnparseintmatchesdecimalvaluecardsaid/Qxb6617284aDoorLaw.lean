/-
  parseInt at any token; copy; the law on signs (function 4), walked whole.
-/
import Derived.Test.Qxb6617284aDoorParse
namespace Go.Proofs.Qxb6617284aDoor
set_option linter.unusedVariables false
open Go.RowKit Go.Deep

theorem Bytes.tail {w : World} {b o : Nat} {x : UInt8} {l : List UInt8} (h : Bytes w b o (x :: l)) : Bytes w b (o + 1) l := fun j hj => by
  have := h (j + 1) (by simp; omega)
  rw [show o + 1 + j = o + (j + 1) by omega, this]
  simp [byteAt]

theorem At.whole {ds : List UInt8} {M : Nat} {n : Int} (h : At ds M n) (hM : M = ds.length) : n = (dv ds : Int) := by
  unfold At at h
  rw [h, hM, List.take_length]

/-- parseInt at any token. -/
theorem parse_any {w : World} {b o c L : Nat} {t : List UInt8} {neg : Bool} {ds : List UInt8} (h : Bytes w b o t) (ht : Tok t neg ds) (hL : L = t.length) (hc : L ≤ c) (hcm : c ≤ 9223372036854775807) (hm : L ≤ 4194304) (he : ErrOk w) :
    Calls Tryd.prog 16 #[.slice (some ⟨b, o, none⟩) L c] w (PQ w (pvN neg (dv ds)) (pvB neg (dv ds))) := by
  by_cases h18 : 18 < L
  · exact parse_long h ht hL h18 hm he
  obtain ⟨hd, h0, hf⟩ := ht
  have hp : 0 < ds.length := List.length_pos_iff.2 h0
  rcases hf with ⟨rfl, rfl⟩ | ⟨rfl, rfl⟩ | ⟨rfl, rfl⟩
  · obtain ⟨e1, e2, _, _⟩ := pv_small (dv_small hd (by omega))
    refine (parse_plain h hd hL (by omega) (by omega) hc hcm).mono ?_
    rintro e w' ⟨⟨n, hA, rfl⟩, rfl⟩
    rw [e1, e2, ← hA.whole hL]
    exact ⟨rfl, Below.refl _ _⟩
  · simp only [List.length_cons] at hL
    subst hL
    obtain ⟨e1, e2, _, _⟩ := pv_small (dv_small hd (by omega))
    refine (parse_plus (M := ds.length) (by simpa [byteAt] using h 0 (by simp)) h.tail hd rfl hp (by omega) hc hcm).mono ?_
    rintro e w' ⟨⟨n, hA, rfl⟩, rfl⟩
    rw [e1, e2, ← hA.whole rfl]
    exact ⟨rfl, Below.refl _ _⟩
  · simp only [List.length_cons] at hL
    subst hL
    obtain ⟨_, _, e1, e2⟩ := pv_small (dv_small hd (by omega))
    refine (parse_minus (M := ds.length) (by simpa [byteAt] using h 0 (by simp)) h.tail hd rfl hp (by omega) hc hcm).mono ?_
    rintro e w' ⟨⟨n, hA, rfl⟩, rfl⟩
    rw [e1, e2, ← hA.whole rfl]
    exact ⟨rfl, Below.refl _ _⟩

/-- ZZParseInt. -/
theorem zzparse {w : World} {b o c L : Nat} {n : Int} {r : Bool} (h : Calls Tryd.prog 16 #[.slice (some ⟨b, o, none⟩) L c] w (PQ w n r)) : Calls Tryd.prog 11 #[.slice (some ⟨b, o, none⟩) L c] w (PQ w n r) := by
  have H := hidIt h
  clear h
  go_enter Tryd.func11, Tryd.ntmps11
  go_wp2_with fail
  refine H.out.mono ?_
  rintro e w1 ⟨rfl, hb⟩
  have HB := hidIt hb
  clear hb
  go_wp2
  go_ret2
  exact ⟨rfl, HB.out⟩

/-! ### copy -/
theorem setCells_facts (g : Nat) : ∀ (vs : List Value) (o : Nat) (w : World), (w.setCells g o vs).os = w.os ∧ (w.setCells g o vs).tape = w.tape ∧ (w.setCells g o vs).output = w.output ∧ (w.setCells g o vs).heap.size = w.heap.size ∧ ∀ k, k ≠ g → (w.setCells g o vs).heap[k]? = w.heap[k]?
  | [], o, w => ⟨rfl, rfl, rfl, rfl, fun _ _ => rfl⟩
  | v :: vs, o, w => by
    obtain ⟨h1, h2, h3, h4, h5⟩ := setCells_facts g vs (o + 1) (w.setCell ⟨g, o, none⟩ v)
    exact ⟨h1, h2, h3, h4.trans (by simp), fun k hk => (h5 k hk).trans (Below.heap_setCell _ _ _ _ hk)⟩

theorem copied {w0 w : World} {n b o c : Nat} {l : List UInt8} (hI : MakeInv w0 n l 0 w) (hb : Bytes w b o l) (hL : n = l.length) (ty : TypeId) :
    ∃ w', (Builtin.copy_ #[22, 22] ty #[.slice (some ⟨w0.heap.size, 0, none⟩) n n, .slice (some ⟨b, o, none⟩) n c]).run Tryd.prog w = .ok (goInt n) w' ∧ MakeInv w0 n l n w' := by
  obtain ⟨cs, hcs⟩ : ∃ cs, cs = (List.range n).map (fun j => Value.int .u8 (byteAt l j)) := ⟨_, rfl⟩
  have hlen : cs.length = n := by simp [hcs]
  have hat : ∀ j, j < n → cs[j]? = some (.int .u8 (byteAt l j)) := fun j hj => by simp [hcs, List.getElem?_range hj]
  have hr := run_copy_cells (P := Tryd.prog) w 22 22 ty 5 w0.heap.size 0 n n ⟨b, o, none⟩ n c cs Tryd.underlying22 (by kernel_rfl) (by rw [hlen]; exact (Nat.min_self n).symm)
    (fun j v hv => by
      have hj : j < n := by rw [← hlen]; exact (List.getElem?_eq_some_iff.1 hv).1
      rw [hat j hj] at hv
      rw [Addr.add_mid, hb j (by omega)]
      exact hv)
    (fun j hj => by rw [Nat.zero_add]; exact (hI.wri j (by omega)).1) (fun j hj => by rw [Nat.zero_add]; exact (hI.wri j (by omega)).2)
    (fun v hv => by rw [hcs] at hv; obtain ⟨j, _, rfl⟩ := List.mem_map.1 hv; rfl)
  rw [hlen] at hr
  obtain ⟨f1, f2, f3, f4, f5⟩ := setCells_facts w0.heap.size cs 0 w
  refine ⟨_, hr, ⟨f1.trans hI.bel.os, f2.trans hI.bel.tape, f3.trans hI.bel.output, by rw [f4]; exact hI.bel.size, fun k hk => (f5 k (by omega)).trans (hI.bel.block k hk)⟩, f4.trans hI.size, fun j hj => ⟨World.isSome_setCells _ _ _ _ _ (hI.wri j hj).1, (World.frozen?_setCells _ _ _ _ _).trans (hI.wri j hj).2⟩, fun j hj => ?_⟩
  have := World.cell?_setCells_in w0.heap.size cs 0 w (fun i hi => by rw [Nat.zero_add]; exact (hI.wri i (by omega)).1) j (by omega)
  rw [Nat.zero_add] at this
  rw [this, ← hat j hj, List.getElem?_eq_getElem (by omega)]

theorem wpList_copied {w0 w : World} {ops : Array Oper} {rest : List Oper} {op : Oper} {a : Act} {Q : Exit → Act → World → Prop} (hgd : op.guard = none) (d s : Operand)
    (ho : op.op = .call { callee := .builtin .copy, args := #[d, s], argTypes := #[22, 22] }) {n b o c : Nat} {l : List UInt8} (hI : MakeInv w0 n l 0 w) (hb : Bytes w b o l) (hL : n = l.length)
    (hd : a.eval d = .slice (some ⟨w0.heap.size, 0, none⟩) n n) (hs : a.eval s = .slice (some ⟨b, o, none⟩) n c)
    (h : ∀ w', MakeInv w0 n l n w' → wpList Tryd.prog ops Q rest (a.put op.dst (goInt n)) w') : wpList Tryd.prog ops Q (op :: rest) a w := by
  refine wpList_plain hgd fun K' hK' => ?_
  obtain ⟨w', hr, h2⟩ := copied hI hb hL op.type (c := c)
  unfold Oper.wp execOp
  simp only [ho, resolve, invoke, builtin, Sem.run_bind, Sem.run_pure, Result.andThen_ok, List.map_toArray, List.map_cons, List.map_nil, hd, hs, hr]
  exact hK' _ _ (h w' h2)

end Go.Proofs.Qxb6617284aDoor
