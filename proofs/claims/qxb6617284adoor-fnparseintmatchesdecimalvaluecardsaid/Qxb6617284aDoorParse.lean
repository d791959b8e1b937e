/-
  parseInt (function 16), ZZParseInt (11), over the shelf's contract of strconv.ParseInt.
-/
import Derived.Test.Qxb6617284aDoorMake
import Derived.Test.Qxb6617284aDoorShelf
import Derived.Laws.BytesString
import Derived.Lib.ConvBytes
namespace Go.Proofs.Qxb6617284aDoor
set_option linter.unusedVariables false
open Go.RowKit Go.Deep

/-- The variable strconv.ErrRange holds an error that is not nil. -/
def ErrOk (w : World) : Prop := ∃ tp p, w.var? Tryd.prog "strconv.ErrRange" = some #[.iface tp p]

theorem ErrOk.on {w w' : World} (h : ErrOk w) (hb : Below w.heap.size w w') : ErrOk w' := by
  obtain ⟨tp, p, hv⟩ := h
  refine ⟨tp, p, ?_⟩
  unfold World.var? at hv ⊢
  cases hg : Tryd.prog.globalNamed "strconv.ErrRange" with
  | none => rw [hg] at hv; cases hv
  | some g =>
    rw [hg] at hv
    simp only [Option.bind_some] at hv ⊢
    have hlt : g < w.heap.size := by
      rcases Nat.lt_or_ge g w.heap.size with h | h
      · exact h
      · rw [Array.getElem?_eq_none h] at hv; cases hv
    rw [hb.block g hlt]
    exact hv

/-- How strconv.ParseInt ends at a token. -/
def P17Q (w : World) (n : Int) (ok : Bool) (e : Ending) (w' : World) : Prop :=
  Below w.heap.size w w' ∧ ((ok = true ∧ e = .returned (.tuple #[.int .i64 n, .nilIface])) ∨ (ok = false ∧ ∃ N, e = .returned (.tuple #[.int .i64 n, .iface 43 (.pointer (some ⟨N, 0, none⟩))])))

theorem parse17 {s : ByteArray} {neg : Bool} {ds : List UInt8} (ht : Tok s.data.toList neg ds) (hs : s.size ≤ 281474976710656) {w : World} (he : ErrOk w) :
    Calls Tryd.prog 17 #[.string s, .int .i64 10, .int .i64 64] w (P17Q w (pvN neg (dv ds)) (pvB neg (dv ds))) := by
  rcases tok_parse ht with ⟨h1, h2⟩ | ⟨h1, h2, h3⟩
  · refine (Tryd.strconv_ParseInt_10_at64_ok s (by omega) _ h2 w).mono ?_
    rintro e w' ⟨rfl, hw⟩
    refine ⟨?_, .inl ⟨h1, rfl⟩⟩
    rcases hw with rfl | ⟨t, rfl⟩
    · exact Below.refl _ _
    · exact ⟨rfl, rfl, rfl, by rw [Lib.bytesWorld_size]; omega, fun k hk => Lib.bytesWorld_at_old w 5 t k hk⟩
  · obtain ⟨tp, p, hv⟩ := he
    refine (Tryd.strconv_ParseInt_10_at64_range_var s hs h2 tp p w hv).mono ?_
    rintro e w' ⟨N, rfl, _, _, hb⟩
    exact ⟨hb, .inr ⟨h1, N, by rw [h3]⟩⟩

/-- string(tok). -/
def strOf (t : List UInt8) : ByteArray := (t.map fun c => (c.toNat : Int)).foldl (fun r n => r.push (UInt8.ofNat n.toNat)) ByteArray.empty
theorem strOf_data (t : List UInt8) : (strOf t).data.toList = t := by
  have key : ∀ (t : List UInt8) (r : ByteArray), ((t.map fun c => (c.toNat : Int)).foldl (fun r n => r.push (UInt8.ofNat n.toNat)) r).data.toList = r.data.toList ++ t := by
    intro t
    induction t with
    | nil => intro r; simp
    | cons c t ih =>
      intro r
      rw [List.map_cons, List.foldl_cons, ih]
      simp [ByteArray.push]
  simpa [strOf] using key t ByteArray.empty
theorem strOf_size (t : List UInt8) : (strOf t).size = t.length := by
  have := str_len (strOf t)
  rw [strOf_data] at this
  omega
theorem conv_str {w : World} {b o : Nat} {t : List UInt8} (h : Bytes w b o t) (L c : Nat) (hL : L = t.length) : (convert 22 9 (.slice (some ⟨b, o, none⟩) L c)).run Tryd.prog w = .ok (.string (strOf t)) w := by
  rw [run_convert_bytes_string w 22 9 5 _ _ _ Tryd.underlying22 Tryd.underlying5 Tryd.underlying9]
  refine run_bytesToString w ⟨b, o, none⟩ L c (t.map fun c => (c.toNat : Int)) ?_
  have hlen : L = ((t.map fun c => (c.toNat : Int)).map (Value.int .u8)).length := by simp [hL]
  rw [hlen]
  refine run_loadCells_list w ⟨b, o, none⟩ _ (fun j v hv => ?_)
  rw [Addr.add_mid]
  have hj : j < t.length := by
    have := (List.getElem?_eq_some_iff.1 hv).1
    simpa using this
  rw [h j hj, byteAt, List.getElem?_eq_getElem hj]
  simp only [List.getElem?_map, List.getElem?_eq_getElem hj, Option.map_some, Option.some.injEq] at hv
  rw [← hv]
  rfl

/-- How parseInt ends: the number, the bool. -/
def PQ (w : World) (n : Int) (ok : Bool) (e : Ending) (w' : World) : Prop := e = .returned (.tuple #[.int .i64 n, .bool ok]) ∧ Below w.heap.size w w'

set_option maxHeartbeats 800000 in
theorem parse_long {w : World} {b o c L : Nat} {t : List UInt8} {neg : Bool} {ds : List UInt8} (h : Bytes w b o t) (ht : Tok t neg ds) (hL : L = t.length) (h18 : 18 < L) (hm : L ≤ 4194304) (he : ErrOk w) :
    Calls Tryd.prog 16 #[.slice (some ⟨b, o, none⟩) L c] w (PQ w (pvN neg (dv ds)) (pvB neg (dv ds))) := by
  have hcv := conv_str h L c hL
  have H17 := hidIt (parse17 (s := strOf t) (by rw [strOf_data]; exact ht) (by rw [strOf_size]; omega) he)
  obtain ⟨s, hs⟩ : ∃ s, s = strOf t := ⟨_, rfl⟩
  rw [← hs] at hcv H17
  clear hs h ht hL
  obtain ⟨v, hv⟩ : ∃ v, v = pvN neg (dv ds) := ⟨_, rfl⟩
  obtain ⟨r, hr⟩ : ∃ v, v = pvB neg (dv ds) := ⟨_, rfl⟩
  rw [← hv, ← hr] at H17 ⊢
  clear hv hr
  go_enter Tryd.func16, Tryd.ntmps16
  go_wp2_with fail
  refine H17.out.mono ?_
  rintro e w1 ⟨hb, ⟨rfl, rfl⟩ | ⟨rfl, N, rfl⟩⟩
  all_goals
    have HB := hidIt hb
    clear hb
    go_wp2
    go_quiet (fail)
    go_wp2
    go_ret2
    exact ⟨rfl, HB.out.trans ((below_drew _ _).mono (HB.out.size))⟩

/-! ### up to 18 bytes: the hand loop -/
theorem dv_take_succ {ds : List UInt8} {k : Nat} (hk : k < ds.length) : dv (ds.take (k + 1)) = dv (ds.take k) * 10 + ((ds[k]?.getD 0).toNat - 48) := by
  rw [List.take_succ_eq_append_getElem hk, dv_snoc, List.getElem?_eq_getElem hk]
  rfl
theorem dv_take_lt {ds : List UInt8} {k : Nat} (hd : Dig ds) (hk : k ≤ 17) : dv (ds.take k) < 100000000000000000 := by
  have h1 : dv (ds.take k) < 10 ^ (ds.take k).length := dv_lt (fun c hc => hd c (List.mem_of_mem_take hc))
  have h2 : (10 : Nat) ^ (ds.take k).length ≤ 10 ^ 17 := Nat.pow_le_pow_right (by omega) (by simp; omega)
  have h3 : (10 : Nat) ^ 17 = 100000000000000000 := by decide
  omega
theorem dv_small {ds : List UInt8} (hd : Dig ds) (hk : ds.length ≤ 18) : dv ds < 1000000000000000000 := by
  have h1 := dv_lt hd
  have h2 : (10 : Nat) ^ ds.length ≤ 10 ^ 18 := Nat.pow_le_pow_right (by omega) hk
  have h3 : (10 : Nat) ^ 18 = 1000000000000000000 := by decide
  omega
theorem pv_small {m : Nat} (h : m < 1000000000000000000) : pvN false m = (m : Int) ∧ pvB false m = true ∧ pvN true m = -(m : Int) ∧ pvB true m = true := by
  refine ⟨?_, ?_, ?_, ?_⟩
  · simp only [pvN]; rw [if_neg (by decide), if_pos (by omega)]
  · simp only [pvB]; rw [if_neg (by decide)]; exact decide_eq_true (by omega)
  · simp only [pvN]; rw [if_pos trivial, if_pos (by omega)]
  · simp only [pvB]; rw [if_pos trivial]; exact decide_eq_true (by omega)
theorem dig_at {ds : List UInt8} (hd : Dig ds) {k : Nat} (hk : k < ds.length) : 48 ≤ byteAt ds k ∧ byteAt ds k ≤ 57 := by
  have := hd _ (List.getElem_mem hk)
  simp only [byteAt, List.getElem?_eq_getElem hk, Option.getD_some]
  omega

/-- Where the loop stands. -/
def At (ds : List UInt8) (k : Nat) (n : Int) : Prop := n = (dv (ds.take k) : Int)
theorem At.step {ds : List UInt8} (hd : Dig ds) {k : Nat} {n : Int} (h : At ds k n) (hk : k < ds.length) : At ds (k + 1) (n * 10 + (byteAt ds k - 48)) := by
  have h1 := dig_at hd hk
  unfold At at h ⊢
  rw [dv_take_succ hk, h]
  simp only [byteAt] at h1 ⊢
  omega

set_option maxHeartbeats 1600000 in
theorem parse_plain {w : World} {b o c M : Nat} {ds : List UInt8} (h : Bytes w b o ds) (hd : Dig ds) (hM : Hid (M = ds.length)) (h0 : 0 < M) (h18 : M ≤ 18) (hc : M ≤ c) (hcm : c ≤ 9223372036854775807) :
    Calls Tryd.prog 16 #[.slice (some ⟨b, o, none⟩) M c] w fun e w' => (∃ n, At ds M n ∧ e = .returned (.tuple #[.int .i64 n, .bool true])) ∧ w' = w := by
  have g0 := h 0 (by rw [← hM.out]; exact h0)
  have d0 := dig_at hd (k := 0) (by rw [← hM.out]; exact h0)
  obtain ⟨x0, hx0⟩ : ∃ x, x = byteAt ds 0 := ⟨_, rfl⟩
  rw [← hx0] at g0 d0
  rw [Nat.add_zero] at g0
  have n45 : (x0 == 45) = false := by simp; omega
  have n43 : (x0 == 43) = false := by simp; omega
  have H := hidIt h
  have HD := hidIt hd
  clear h hd hx0 d0
  go_enter Tryd.func16, Tryd.ntmps16
  go_wp2
  go_loop [2, 39] (fun n i => ∃ (k : Nat) (v : Int), k ≤ M ∧ i = .int .i64 k ∧ n = .int .i64 v ∧ Hid (At ds k v)) (fun _ i => M - (intOf i).toNat)
  case atStart => exact ⟨0, 0, Nat.zero_le _, rfl, rfl, rfl⟩
  case round =>
    obtain ⟨k, v, hk, rfl, rfl, HA⟩ := hrel
    by_cases hlt : k < M
    · have hkd : Hid (k < ds.length) := hidIt (by rw [← hM.out]; exact hlt)
      have g1 := H.out k hkd.out
      obtain ⟨q1, q2⟩ := dig_at HD.out hkd.out
      have HN := hidIt (HA.out.step HD.out hkd.out)
      obtain ⟨v0, v1⟩ : 0 ≤ v ∧ v ≤ 99999999999999999 := by
        have e := HA.out
        have := dv_take_lt (k := k) HD.out (by omega)
        unfold At at e
        omega
      obtain ⟨y, hy⟩ : ∃ y, y = byteAt ds k := ⟨_, rfl⟩
      rw [← hy] at g1 q1 q2 HN
      clear hy
      go_wp2
      go_round
      case rel => exact ⟨k + 1, v * 10 + (y - 48), by omega, by go_num, by go_num, HN.out⟩
      case measure => simp [intOf]; omega
    · obtain rfl : M = k := by omega
      go_wp2
      go_ret2
      exact ⟨⟨v, HA.out, rfl⟩, rfl⟩

set_option maxHeartbeats 1600000 in
theorem parse_plus {w : World} {b o c M : Nat} {ds : List UInt8} (g0 : w.cell? ⟨b, o, none⟩ = some (.int .u8 43)) (h : Bytes w b (o + 1) ds) (hd : Dig ds) (hM : Hid (M = ds.length)) (h0 : 0 < M) (h18 : M + 1 ≤ 18) (hc : M + 1 ≤ c) (hcm : c ≤ 9223372036854775807) :
    Calls Tryd.prog 16 #[.slice (some ⟨b, o, none⟩) (M + 1) c] w fun e w' => (∃ n, At ds M n ∧ e = .returned (.tuple #[.int .i64 (n), .bool true])) ∧ w' = w := by
  have H := hidIt h
  have HD := hidIt hd
  clear h hd
  go_enter Tryd.func16, Tryd.ntmps16
  go_wp2
  go_loop [2, 39] (fun n i => ∃ (k : Nat) (v : Int), k ≤ M ∧ i = .int .i64 k ∧ n = .int .i64 v ∧ Hid (At ds k v)) (fun _ i => M - (intOf i).toNat)
  case atStart => exact ⟨0, 0, Nat.zero_le _, rfl, rfl, rfl⟩
  case round =>
    obtain ⟨k, v, hk, rfl, rfl, HA⟩ := hrel
    by_cases hlt : k < M
    · have hkd : Hid (k < ds.length) := hidIt (by rw [← hM.out]; exact hlt)
      have g1 := H.out k hkd.out
      obtain ⟨q1, q2⟩ := dig_at HD.out hkd.out
      have HN := hidIt (HA.out.step HD.out hkd.out)
      obtain ⟨v0, v1⟩ : 0 ≤ v ∧ v ≤ 99999999999999999 := by
        have e := HA.out
        have := dv_take_lt (k := k) HD.out (by omega)
        unfold At at e
        omega
      obtain ⟨y, hy⟩ : ∃ y, y = byteAt ds k := ⟨_, rfl⟩
      rw [← hy] at g1 q1 q2 HN
      clear hy
      go_wp2
      go_round
      case rel => exact ⟨k + 1, v * 10 + (y - 48), by omega, by go_num, by go_num, HN.out⟩
      case measure => simp [intOf]; omega
    · obtain rfl : M = k := by omega
      obtain ⟨v0, v1⟩ : 0 ≤ v ∧ v ≤ 999999999999999999 := by
        have e := HA.out
        have e2 := hM.out
        have := dv_small HD.out (by omega)
        unfold At at e
        rw [List.take_of_length_le (by omega)] at e
        omega
      go_wp2
      go_ret2
      exact ⟨⟨v, HA.out, rfl⟩, rfl⟩

set_option maxHeartbeats 1600000 in
theorem parse_minus {w : World} {b o c M : Nat} {ds : List UInt8} (g0 : w.cell? ⟨b, o, none⟩ = some (.int .u8 45)) (h : Bytes w b (o + 1) ds) (hd : Dig ds) (hM : Hid (M = ds.length)) (h0 : 0 < M) (h18 : M + 1 ≤ 18) (hc : M + 1 ≤ c) (hcm : c ≤ 9223372036854775807) :
    Calls Tryd.prog 16 #[.slice (some ⟨b, o, none⟩) (M + 1) c] w fun e w' => (∃ n, At ds M n ∧ e = .returned (.tuple #[.int .i64 (-n), .bool true])) ∧ w' = w := by
  have H := hidIt h
  have HD := hidIt hd
  clear h hd
  go_enter Tryd.func16, Tryd.ntmps16
  go_wp2
  go_loop [2, 39] (fun n i => ∃ (k : Nat) (v : Int), k ≤ M ∧ i = .int .i64 k ∧ n = .int .i64 v ∧ Hid (At ds k v)) (fun _ i => M - (intOf i).toNat)
  case atStart => exact ⟨0, 0, Nat.zero_le _, rfl, rfl, rfl⟩
  case round =>
    obtain ⟨k, v, hk, rfl, rfl, HA⟩ := hrel
    by_cases hlt : k < M
    · have hkd : Hid (k < ds.length) := hidIt (by rw [← hM.out]; exact hlt)
      have g1 := H.out k hkd.out
      obtain ⟨q1, q2⟩ := dig_at HD.out hkd.out
      have HN := hidIt (HA.out.step HD.out hkd.out)
      obtain ⟨v0, v1⟩ : 0 ≤ v ∧ v ≤ 99999999999999999 := by
        have e := HA.out
        have := dv_take_lt (k := k) HD.out (by omega)
        unfold At at e
        omega
      obtain ⟨y, hy⟩ : ∃ y, y = byteAt ds k := ⟨_, rfl⟩
      rw [← hy] at g1 q1 q2 HN
      clear hy
      go_wp2
      go_round
      case rel => exact ⟨k + 1, v * 10 + (y - 48), by omega, by go_num, by go_num, HN.out⟩
      case measure => simp [intOf]; omega
    · obtain rfl : M = k := by omega
      obtain ⟨v0, v1⟩ : 0 ≤ v ∧ v ≤ 999999999999999999 := by
        have e := HA.out
        have e2 := hM.out
        have := dv_small HD.out (by omega)
        unfold At at e
        rw [List.take_of_length_le (by omega)] at e
        omega
      go_wp2
      go_ret2
      exact ⟨⟨v, HA.out, rfl⟩, rfl⟩

end Go.Proofs.Qxb6617284aDoor
