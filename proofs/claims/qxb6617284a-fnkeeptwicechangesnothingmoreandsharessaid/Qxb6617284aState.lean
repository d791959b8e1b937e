/-
  zzB1StateIs (function 12): where the two maps agree but at key, and key reads as told, it says so.
-/
import Derived.Test.Qxb6617284aInv3
namespace Go.Proofs.Qxb6617284a
set_option linter.unusedVariables false
open Go.RowKit Go.Deep Go.Maps

/-- What zzB1StateIs is called with. -/
structure SAsk (w : World) (Mb Rb : Nat) (key : Int) (wa : Value) (had : Bool) (fm fr : Int → Option Value) (lm lr : Int → List Int) : Prop where
  m : ∃ c, MapIs w Mb fm c
  r : ∃ c, MapIs w Rb fr c
  mr : ∀ k, Rd w ((fm k).getD (.slice none 0 0)) (lm k)
  rr : ∀ k, Rd w ((fr k).getD (.slice none 0 0)) (lr k)
  same : ∀ k, k ≠ key → (fm k).isSome = (fr k).isSome ∧ lm k = lr k
  had : (fm key).isSome = had
  wa : Rd w wa (lm key)

theorem SAsk.later {w w' : World} {Mb Rb : Nat} {key : Int} {wa : Value} {had : Bool} {fm fr : Int → Option Value} {lm lr : Int → List Int} (h : SAsk w Mb Rb key wa had fm fr lm lr) (hb : Below w.heap.size w w') : SAsk w' Mb Rb key wa had fm fr lm lr := by
  obtain ⟨⟨c1, h1⟩, ⟨c2, h2⟩, h3, h4, h5, h6, h7⟩ := h
  exact ⟨⟨c1, h1.kept (hb.block _ h1.lt)⟩, ⟨c2, h2.kept (hb.block _ h2.lt)⟩, fun k => (h3 k).later hb, fun k => (h4 k).later hb, h5, h6, h7.later hb⟩

/-- The loop's state: its own map of the keys met. -/
structure SInv (w : World) (j : Nat) (wr : World) : Prop where
  below : Below w.heap.size w wr
  size : wr.heap.size = w.heap.size + 1
  chk : ∃ f c, c ≤ j ∧ MapIs wr w.heap.size (boM f) c

theorem sinv_start (w : World) : SInv w 0 (w.alloc (.map #[] 0)) :=
  ⟨(Below.refl _ _).alloc (Nat.le_refl _) _, by simp, fun _ => false, 0, Nat.le_refl _, (mapIs_made w).congr (fun k _ => by simp [boM])⟩

theorem SInv.drew {w : World} {j : Nat} {wr : World} (h : SInv w j wr) (n : Nat) : SInv w j (wr.drewN n) := ⟨⟨h.below.os, h.below.tape, h.below.output, h.below.size, h.below.block⟩, h.size, h.chk⟩
theorem SInv.next {w : World} {j : Nat} {wr : World} (h : SInv w j wr) : SInv w (j + 1) wr := by
  obtain ⟨h1, h2, f, c, h3, h4⟩ := h
  exact ⟨h1, h2, f, c, by omega, h4⟩

theorem sinv_store {w : World} {j : Nat} {wr : World} {f : Int → Bool} {c : Nat} (h : SInv w j wr) (hc : c ≤ j) (hm : MapIs wr w.heap.size (boM f) c) (hj : j < 65536) {k : Int} (hk : (Lit.int .i64 k).wf = true) :
    ∃ w1, (Instr.mapUpdate 38 (.map (some w.heap.size)) (.int .i64 k) (.bool true)).run Try.prog wr = .ok () w1 ∧ SInv w (j + 1) w1 := by
  obtain ⟨w1, r1, ⟨c', hc', m1⟩, g1, s1⟩ := bool_store (g := fun k' => if k' = k then true else f k') hm (by simp only [maxLen]; omega) hk (fun k' => rfl)
  have hsz := h.size
  exact ⟨w1, r1, h.below.grown g1 (by omega) (by intro k hk; cases hk; exact Nat.le_refl _), by omega, _, c', by omega, m1⟩

set_option maxHeartbeats 1600000 in
theorem state_full (kb ko nk ck Mb Rb : Nat) (key : Int) (ws : Option Addr) (wl wc : Nat) (had : Bool) (fm fr : Int → Option Value) (lm lr : Int → List Int) (K : Nat → Int) (w : World) (hnk : nk ≤ 65536) (hkey : (Lit.int .i64 key).wf = true)
    (hkc : ∀ i, i < nk → w.cell? ⟨kb, ko + i, none⟩ = some (.int .i64 (K i))) (hwf : ∀ i, i < nk → (Lit.int .i64 (K i)).wf = true) (hA : SAsk w Mb Rb key (.slice ws wl wc) had fm fr lm lr) :
    Calls Try.prog 12 #[.map (some Mb), .map (some Rb), .slice (some ⟨kb, ko, none⟩) nk ck, .int .i64 key, .slice ws wl wc, .bool had] w fun e w' => e = .returned (.bool true) ∧ Below w.heap.size w w' := by
  have HKc : Hid (∀ i, i < nk → w.cell? ⟨kb, ko + i, none⟩ = some (.int .i64 (K i))) := hkc
  have HW : Hid (∀ i, i < nk → (Lit.int .i64 (K i)).wf = true) := hwf
  have HA : Hid (SAsk w Mb Rb key (.slice ws wl wc) had fm fr lm lr) := hA
  have hmm := @run_makeMap Try.prog
  clear hkc hwf hA
  go_enter Try.func12, Try.ntmps12
  go_wp2_with fail
  go_loopw [14] (fun i wr => ∃ k : Nat, k ≤ nk ∧ i = .int .i64 k ∧ SInv w k wr) (fun i _ => nk - (intOf i).toNat)
  case atStart => exact ⟨0, Nat.zero_le _, rfl, sinv_start w⟩
  case round =>
    clear hmm
    obtain ⟨k, hk, rfl, hI⟩ := hrel
    by_cases hlt : k < nk
    · have hkey1 : wr.cell? ⟨kb, ko + k, none⟩ = some (.int .i64 (K k)) := cell_later hI.below (HKc.out k hlt)
      have hwk := HW.out k hlt
      have R0 : Hid (SInv w (k + 1) wr) := hI.next
      by_cases hkk : K k = key
      · have hkk' : (K k == key) = true := by simp [hkk]
        obtain ⟨Kk, hKk⟩ : ∃ x, x = K k := ⟨_, rfl⟩
        rw [← hKk] at hkey1 hkk'
        clear hI hwk hkk hKk
        go_wp2_with fail
        go_roundw
        case rel => exact ⟨k + 1, by omega, by go_num, R0.out⟩
        case measure => simp [intOf]; omega
      · have hkk' : (K k == key) = false := by simp [hkk]
        obtain ⟨f, c, hc, hmc⟩ := hI.chk
        have hlc : (Instr.lookup 38 (.map (some w.heap.size)) (.int .i64 (K k)) false).run Try.prog wr = .ok (.bool (f (K k))) wr := by
          have := hmc.look Try.underlying38 (zero4 wr) hwk
          rw [boM_getD] at this
          exact this
        cases hf : f (K k) with
        | true =>
          rw [hf] at hlc
          obtain ⟨Kk, hKk⟩ : ∃ x, x = K k := ⟨_, rfl⟩
          rw [← hKk] at hkey1 hkk' hlc
          clear hI hwk hkk hKk hmc hf
          go_wp2_with fail
          go_roundw
          case rel => exact ⟨k + 1, by omega, by go_num, R0.out⟩
          case measure => simp [intOf]; omega
        | false =>
          rw [hf] at hlc
          obtain ⟨w1, r1, hI1⟩ := sinv_store hI hc hmc (by omega) hwk
          have hA1 := HA.out.later hI1.below
          obtain ⟨⟨c1, hm1⟩, ⟨c2, hr1⟩, hmr1, hrr1, hsm, _, _⟩ := hA1
          obtain ⟨hs1, hs2⟩ := hsm (K k) hkk
          have hlm := hm1.look_ok Try.underlying26 (zero22 w1) hwk
          have hlr := hr1.look_ok Try.underlying26 (zero22 w1) hwk
          have hv1 := hmr1 (K k)
          have hv2 := hrr1 (K k)
          rw [hs1] at hlm
          rw [hs2] at hv1
          obtain ⟨va, vc, hve⟩ := rd_shape hv1
          obtain ⟨xa, xc, hxe⟩ := rd_shape hv2
          rw [hve] at hlm hv1
          rw [hxe] at hlr hv2
          have HC : Hid (Calls Try.prog 11 #[.slice va (lr (K k)).length vc, .slice xa (lr (K k)).length xc] w1 fun e w' => e = .returned (.bool true) ∧ ∃ n, w' = w1.drewN n) := by
            have := same_any hv1 hv2
            simp only [eq_self, decide_true] at this
            exact this
          have HR : Hid (∀ n, SInv w (k + 1) (w1.drewN n)) := fun n => hI1.drew n
          obtain ⟨Kk, hKk⟩ : ∃ x, x = K k := ⟨_, rfl⟩
          obtain ⟨Lk, hLk⟩ : ∃ x, x = (lr (K k)).length := ⟨_, rfl⟩
          obtain ⟨bb, hbb⟩ : ∃ x, x = (fr (K k)).isSome := ⟨_, rfl⟩
          rw [← hLk] at hlm hlr HC
          rw [← hbb] at hlm hlr
          rw [← hKk] at hkey1 hkk' hlc r1 hlm hlr
          clear hI hwk hkk hKk hmc hf hI1 hm1 hr1 hmr1 hrr1 hsm hs1 hs2 hv1 hv2 hve hxe hLk hbb R0
          cases bb
          all_goals
            go_wp2_with (go_at_call 11; refine HC.out.mono ?_; rintro e wx ⟨rfl, nn, hwx⟩; subst hwx)
            go_roundw
            case rel => exact ⟨k + 1, by omega, by go_num, HR.out _⟩
            case measure => simp [intOf]; omega
    · have hA1 := HA.out.later hI.below
      have HB : Hid (∀ n, Below w.heap.size w (wr.drewN n)) := fun n => (hI.drew n).below
      obtain ⟨⟨c1, hm1⟩, _, hmr1, _, _, hhad, hwa⟩ := hA1
      have hlm := hm1.look_ok Try.underlying26 (zero22 wr) hkey
      have hv1 := hmr1 key
      rw [hhad] at hlm
      obtain ⟨va, vc, hve⟩ := rd_shape hv1
      rw [hve] at hlm hv1
      have HC : Hid (Calls Try.prog 11 #[.slice va (lm key).length vc, .slice ws wl wc] wr fun e w' => e = .returned (.bool true) ∧ ∃ n, w' = wr.drewN n) := by
        have := same_any hv1 hwa
        simp only [eq_self, decide_true] at this
        exact this
      obtain ⟨Lk, hLk⟩ : ∃ x, x = (lm key).length := ⟨_, rfl⟩
      rw [← hLk] at hlm HC
      clear hI hm1 hmr1 hhad hwa hv1 hve hLk
      cases had
      all_goals
        go_wp2_with (go_at_call 11; refine HC.out.mono ?_; rintro e wx ⟨rfl, nn, hwx⟩; subst hwx)
        go_ret
        exact ⟨rfl, HB.out _⟩

set_option maxHeartbeats 1600000 in
theorem state_zero (ak : Option Addr) (ck Mb Rb : Nat) (key : Int) (ws : Option Addr) (wl wc : Nat) (had : Bool) (fm fr : Int → Option Value) (lm lr : Int → List Int) (w : World) (hkey : (Lit.int .i64 key).wf = true)
    (hA : SAsk w Mb Rb key (.slice ws wl wc) had fm fr lm lr) :
    Calls Try.prog 12 #[.map (some Mb), .map (some Rb), .slice ak 0 ck, .int .i64 key, .slice ws wl wc, .bool had] w fun e w' => e = .returned (.bool true) ∧ Below w.heap.size w w' := by
  have hI := sinv_start w
  have hA1 := hA.later hI.below
  have HB : Hid (∀ n, Below w.heap.size w ((w.alloc (.map #[] 0)).drewN n)) := fun n => (hI.drew n).below
  obtain ⟨⟨c1, hm1⟩, _, hmr1, _, _, hhad, hwa⟩ := hA1
  have hlm := hm1.look_ok Try.underlying26 (zero22 _) hkey
  have hv1 := hmr1 key
  rw [hhad] at hlm
  obtain ⟨va, vc, hve⟩ := rd_shape hv1
  rw [hve] at hlm hv1
  have HC : Hid (Calls Try.prog 11 #[.slice va (lm key).length vc, .slice ws wl wc] (w.alloc (.map #[] 0)) fun e w' => e = .returned (.bool true) ∧ ∃ n, w' = (w.alloc (.map #[] 0)).drewN n) := by
    have := same_any hv1 hwa
    simp only [eq_self, decide_true] at this
    exact this
  obtain ⟨Lk, hLk⟩ : ∃ x, x = (lm key).length := ⟨_, rfl⟩
  rw [← hLk] at hlm HC
  have hmm := @run_makeMap Try.prog
  clear hI hm1 hmr1 hhad hwa hv1 hve hLk hA
  cases had
  all_goals
    go_enter Try.func12, Try.ntmps12
    go_wp2_with fail
    refine wp_loop_rounds 1 ?_
    rw [rounds_succ]
    go_wp2_with (go_at_call 11; refine HC.out.mono ?_; rintro e wx ⟨rfl, nn, hwx⟩; subst hwx)
    go_ret
    exact ⟨rfl, HB.out _⟩

/-- zzB1StateIs, at whatever keys. -/
theorem state_any {w : World} {ak : Option Addr} {nk ck Mb Rb : Nat} {ks : List Int} {key : Int} {wa : Value} {had : Bool} {fm fr : Int → Option Value} {lm lr : Int → List Int} (hk : Rd w (.slice ak nk ck) ks) (hnk : nk ≤ 65536) (hwf : ∀ x ∈ ks, (Lit.int .i64 x).wf = true) (hkey : (Lit.int .i64 key).wf = true)
    (hA : SAsk w Mb Rb key wa had fm fr lm lr) :
    Calls Try.prog 12 #[.map (some Mb), .map (some Rb), .slice ak nk ck, .int .i64 key, wa, .bool had] w fun e w' => e = .returned (.bool true) ∧ Below w.heap.size w w' := by
  obtain ⟨ws, wc, rfl⟩ := rd_shape hA.wa
  obtain ⟨a0, c0, he, hl0, hm0, hr0⟩ := hk
  simp only [Value.slice.injEq] at he
  obtain ⟨rfl, rfl, rfl⟩ := he
  by_cases h0 : ks = []
  · subst h0
    exact state_zero ak ck Mb Rb key ws _ wc had fm fr lm lr w hkey hA
  · obtain ⟨kb, ko, rfl, hkc⟩ := hr0 h0
    refine state_full kb ko ks.length ck Mb Rb key ws _ wc had fm fr lm lr (fun i => ks[i]?.getD 0) w hnk hkey hkc (fun i hi => ?_) hA
    rw [List.getElem?_eq_getElem hi]
    exact hwf _ (List.getElem_mem hi)

end Go.Proofs.Qxb6617284a
