/- Seat b6617931a: FnNumberSplitsAtAnyCut walked, ZZNumber over the whole range of int. -/
import Derived.Test.Qxb6617931aNumber
import Derived.Lib.Strings
namespace Go.Proofs.Qxb6617931a.Walks
open Go.RowKit
open Go.Proofs.Qxb6617931a.Plain

/-- Does ZZNumber read k digits off the text (any value is in range)? -/
def nOk (rest : ByteArray) (ok : Bool) (k : Nat) : Bool := ok && (decide (k ≤ rest.size) && allD (rest.data.toList.take k))
def nRest (rest : ByteArray) (ok : Bool) (k : Nat) : ByteArray := if nOk rest ok k = true then rest.extract k rest.size else rest
def nVal (rest : ByteArray) (ok : Bool) (k : Nat) : Int := if nOk rest ok k = true then wrap64 (val (rest.data.toList.take k)) else 0

theorem inR_all (a : Int) : inR (-9223372036854775808) 9223372036854775807 (wrap64 a) = true := by
  have := w64_rng a
  simp [inR]
  omega

theorem zz_any (rest : ByteArray) (ok : Bool) (k : Nat) (hs : rest.size ≤ 65536) (w : World) :
    Calls Try.prog 10 #[.string rest, .bool ok, .int .i64 k, .int .i64 (-9223372036854775808), .int .i64 9223372036854775807] w fun e w' =>
      e = .returned (.tuple #[.string (nRest rest ok k), .bool (nOk rest ok k), .int .i64 (nVal rest ok k)]) ∧ Below w.heap.size w w' := by
  by_cases h : nOk rest ok k = true
  · have h' := h
    simp [nOk] at h'
    obtain ⟨rfl, hk, hall⟩ := h'
    have e1 : nRest rest true k = rest.extract k rest.size := by simp [nRest, h]
    have e2 : nVal rest true k = wrap64 (val (rest.data.toList.take k)) := by simp [nVal, h]
    refine (zznum_yes rest k _ _ hs hk hall w).mono ?_
    rintro e w' ⟨rfl, hb⟩
    rw [inR_all] at *
    exact ⟨by rw [e1, e2, h], hb⟩
  · have e1 : nRest rest ok k = rest := by simp [nRest, h]
    have e2 : nVal rest ok k = 0 := by simp [nVal, h]
    have e3 : nOk rest ok k = false := by simpa using h
    refine (zznum_no rest ok k _ _ hs ?_ w).mono ?_
    · cases ok with
      | false => exact .inl rfl
      | true =>
        by_cases hk : k ≤ rest.size
        · refine .inr (.inr ?_)
          simp [nOk, hk] at h
          simpa using h
        · exact .inr (.inl (by omega))
    · rintro e w' ⟨rfl, hb⟩
      exact ⟨by rw [e1, e2, e3], hb⟩

theorem nRest_size (rest : ByteArray) (ok : Bool) (k : Nat) : (nRest rest ok k).size ≤ rest.size := by
  unfold nRest
  split
  · simp
  · exact Nat.le_refl _
theorem nOk_true {rest : ByteArray} {k : Nat} (h : nOk rest true k = true) : k ≤ rest.size ∧ allD (rest.data.toList.take k) = true := by
  simpa [nOk] using h
theorem nOk_off (rest : ByteArray) (k : Nat) : nOk rest false k = false := rfl

theorem list_cut (rest : ByteArray) (f : Nat) : (rest.extract f rest.size).data.toList = rest.data.toList.drop f := by
  rw [Lib.extract_data]
  have : rest.data.toList.drop f = (rest.data.toList.drop f).take (rest.size - f) := by
    rw [List.take_of_length_le (by simp)]
  rw [← this]
theorem size_cut (rest : ByteArray) (f : Nat) : (rest.extract f rest.size).size = rest.size - f := by simp
theorem cut_cut (rest : ByteArray) (f s : Nat) : (rest.extract f rest.size).extract s (rest.extract f rest.size).size = rest.extract (f + s) rest.size := by
  rw [Lib.extract_eq (rest.extract f rest.size), Lib.extract_eq rest (f + s), list_cut, size_cut, List.drop_drop, Nat.sub_sub]

theorem take_cut (rest : ByteArray) (f s : Nat) : rest.data.toList.take (f + s) = rest.data.toList.take f ++ (rest.data.toList.drop f).take s := List.take_add ..

/-- The cut: the second read succeeds exactly when the whole read does. -/
theorem cut_ok (rest : ByteArray) (f s : Nat) (ok : Bool) : nOk (nRest rest ok f) (nOk rest ok f) s = nOk rest ok (f + s) := by
  cases ok with
  | false => rfl
  | true =>
    cases h : nOk rest true f with
    | false =>
      rw [nOk_off]
      simp [nOk] at h
      symm
      simp [nOk, take_cut, allD_append]
      intro h1 h2
      rw [h (by omega)] at h2
      cases h2
    | true =>
      obtain ⟨hk, ha⟩ := nOk_true h
      have e : nRest rest true f = rest.extract f rest.size := by simp [nRest, h]
      rw [e]
      simp only [nOk, list_cut, size_cut, take_cut, allD_append, ha, Bool.true_and]
      have : (s ≤ rest.size - f) ↔ (f + s ≤ rest.size) := by omega
      rw [decide_eq_decide.2 this]
theorem cut_parts (rest : ByteArray) (f s : Nat) (h : nOk rest true (f + s) = true) :
    nOk rest true f = true ∧ nRest (nRest rest true f) (nOk rest true f) s = rest.extract (f + s) rest.size ∧ nRest rest true (f + s) = rest.extract (f + s) rest.size ∧
    nVal rest true (f + s) = wrap64 (wrap64 (nVal rest true f * wrap64 (10 ^ s)) + nVal (nRest rest true f) (nOk rest true f) s) := by
  have h2 := cut_ok rest f s true
  rw [h] at h2
  have h1 : nOk rest true f = true := by
    cases h1 : nOk rest true f with
    | true => rfl
    | false => rw [h1, nOk_off] at h2; cases h2
  have e : nRest rest true f = rest.extract f rest.size := by simp [nRest, h1]
  rw [h1, e] at h2
  obtain ⟨hk, _⟩ := nOk_true h2
  rw [size_cut] at hk
  refine ⟨h1, ?_, by simp [nRest, h], ?_⟩
  · rw [h1, e]
    simp only [nRest, h2, if_true]
    exact cut_cut rest f s
  · rw [h1, e]
    simp only [nVal, h, h1, h2, if_true]
    rw [list_cut, take_cut, val_append, w64_mul, w64_add]
    congr 4
    simp
    show min s (rest.size - f) = s
    omega

theorem lawB_early (rest : ByteArray) (ok : Bool) (first second : Int) (hs : rest.size ≤ maxLen)
    (h : 65536 < (rest.size : Int) ∨ first < 0 ∨ second < 0 ∨ 65536 < first ∨ 65536 < second) (w : World) :
    Calls Try.prog 8 #[.string rest, .bool ok, .int .i64 first, .int .i64 second] w (Good w) := by
  by_cases h20 : (rest.size : Int) ≤ 1048576
  case neg =>
    have hz : decide ((rest.size : Int) ≤ 1048576) = false := decide_eq_false h20
    clear h
    go_enter Try.func8, Try.ntmps8
    go_wp2_with (go_at_call 21; refine (zz21 _ _ _ _ hs _).mono ?_; rintro e w' ⟨rfl, rfl⟩)
    go_ret
    exact ⟨rfl, Below.refl _ _⟩
  have hz : decide ((rest.size : Int) ≤ 1048576) = true := decide_eq_true h20
  by_cases h16 : (rest.size : Int) ≤ 65536
  case neg =>
    clear h
    go_enter Try.func8, Try.ntmps8
    go_wp2_with (go_at_call 21; refine (zz21 _ _ _ _ hs _).mono ?_; rintro e w' ⟨rfl, rfl⟩)
    go_ret
    exact ⟨rfl, Below.refl _ _⟩
  by_cases h1 : first < 0
  case pos =>
    clear h
    go_enter Try.func8, Try.ntmps8
    go_wp2_with (go_at_call 21; refine (zz21 _ _ _ _ hs _).mono ?_; rintro e w' ⟨rfl, rfl⟩)
    go_ret
    exact ⟨rfl, Below.refl _ _⟩
  by_cases h2 : second < 0
  case pos =>
    clear h
    go_enter Try.func8, Try.ntmps8
    go_wp2_with (go_at_call 21; refine (zz21 _ _ _ _ hs _).mono ?_; rintro e w' ⟨rfl, rfl⟩)
    go_ret
    exact ⟨rfl, Below.refl _ _⟩
  by_cases h3 : 65536 < first
  case pos =>
    clear h
    go_enter Try.func8, Try.ntmps8
    go_wp2_with (go_at_call 21; refine (zz21 _ _ _ _ hs _).mono ?_; rintro e w' ⟨rfl, rfl⟩)
    go_ret
    exact ⟨rfl, Below.refl _ _⟩
  have h4 : 65536 < second := by omega
  clear h
  go_enter Try.func8, Try.ntmps8
  go_wp2_with (go_at_call 21; refine (zz21 _ _ _ _ hs _).mono ?_; rintro e w' ⟨rfl, rfl⟩)
  go_ret
  exact ⟨rfl, Below.refl _ _⟩

set_option maxHeartbeats 800000 in
theorem lawB_yes (rest : ByteArray) (f s : Nat) (h16 : rest.size ≤ 65536) (hf : f ≤ 65536) (hs' : s ≤ 65536) (hy : nOk rest true (f + s) = true) (w : World) :
    Calls Try.prog 8 #[.string rest, .bool true, .int .i64 f, .int .i64 s] w (Good w) := by
  have hz : decide ((rest.size : Int) ≤ 1048576) = true := decide_eq_true (by omega)
  have hml : rest.size ≤ maxLen := by unfold maxLen; omega
  obtain ⟨e1, e2, e3, e4⟩ := cut_parts rest f s hy
  have e5 := cut_ok rest f s true
  rw [hy, e1] at e5
  rw [e1] at e2 e4
  obtain ⟨hle, hall⟩ := nOk_true hy
  have hle' : (f : Int) + s ≤ rest.size := by omega
  have hr1 : (nRest rest true f).size ≤ 65536 := Nat.le_trans (nRest_size _ _ _) h16
  have cf : ((f + s : Nat) : Int) = (f : Int) + s := by omega
  have c3 := fun w => zz_any rest true (f + s) h16 w
  have ca := fun w => allDigits_any rest (f + s) hle h16 w
  rw [cf] at c3 ca
  have H3 : Hid _ := c3
  have HA : Hid _ := ca
  clear c3 ca cf
  go_enter Try.func8, Try.ntmps8
  go_wp2_with (go_at_call 21; refine (zz21 _ _ _ _ hml _).mono ?_; rintro e w' ⟨rfl, rfl⟩)
  refine (zz_any rest true f h16 _).mono ?_
  rintro e w1 ⟨rfl, hb1⟩
  go_wp2_with fail
  refine (zz_any (nRest rest true f) true s hr1 _).mono ?_
  rintro e w2 ⟨rfl, hb2⟩
  go_wp2_with fail
  refine (H3.out _).mono ?_
  rintro e w3 ⟨rfl, hb3⟩
  go_wp2_with fail
  refine (HA.out _).mono ?_
  rintro e w4 ⟨rfl, rfl⟩
  go_wp2_with fail
  refine (pow10_any s (by omega) _).mono ?_
  rintro e w5 ⟨rfl, rfl⟩
  go_wp2
  go_ret
  exact ⟨rfl, (hb1.trans (hb2.mono hb1.size)).trans (hb3.mono (Nat.le_trans hb1.size hb2.size))⟩

set_option maxHeartbeats 800000 in
theorem lawB_no (rest : ByteArray) (ok : Bool) (f s : Nat) (h16 : rest.size ≤ 65536) (hf : f ≤ 65536) (hs' : s ≤ 65536) (hy : nOk rest ok (f + s) = false) (w : World) :
    Calls Try.prog 8 #[.string rest, .bool ok, .int .i64 f, .int .i64 s] w (Good w) := by
  have hz : decide ((rest.size : Int) ≤ 1048576) = true := decide_eq_true (by omega)
  have hml : rest.size ≤ maxLen := by unfold maxLen; omega
  have e3 : nRest rest ok (f + s) = rest := by simp [nRest, hy]
  have e4 : nVal rest ok (f + s) = 0 := by simp [nVal, hy]
  have e5 := cut_ok rest f s ok
  rw [hy] at e5
  have hr1 : (nRest rest ok f).size ≤ 65536 := Nat.le_trans (nRest_size _ _ _) h16
  have cf : ((f + s : Nat) : Int) = (f : Int) + s := by omega
  have c3 := fun w => zz_any rest ok (f + s) h16 w
  rw [cf] at c3
  have H3 : Hid _ := c3
  clear c3
  cases ok with
  | false =>
    clear cf
    go_enter Try.func8, Try.ntmps8
    go_wp2_with (go_at_call 21; refine (zz21 _ _ _ _ hml _).mono ?_; rintro e w' ⟨rfl, rfl⟩)
    refine (zz_any rest false f h16 _).mono ?_
    rintro e w1 ⟨rfl, hb1⟩
    go_wp2_with fail
    refine (zz_any (nRest rest false f) (nOk rest false f) s hr1 _).mono ?_
    rintro e w2 ⟨rfl, hb2⟩
    go_wp2_with fail
    refine (H3.out _).mono ?_
    rintro e w3 ⟨rfl, hb3⟩
    go_wp2_with fail
    go_ret
    exact ⟨rfl, (hb1.trans (hb2.mono hb1.size)).trans (hb3.mono (Nat.le_trans hb1.size hb2.size))⟩
  | true =>
    by_cases hle : f + s ≤ rest.size
    · have hall : allD (rest.data.toList.take (f + s)) = false := by
        simp [nOk, hle] at hy
        simpa using hy
      have hle' : (f : Int) + s ≤ rest.size := by omega
      have ca := fun w => allDigits_any rest (f + s) hle h16 w
      rw [cf] at ca
      have HA : Hid _ := ca
      clear ca cf
      go_enter Try.func8, Try.ntmps8
      go_wp2_with (go_at_call 21; refine (zz21 _ _ _ _ hml _).mono ?_; rintro e w' ⟨rfl, rfl⟩)
      refine (zz_any rest true f h16 _).mono ?_
      rintro e w1 ⟨rfl, hb1⟩
      go_wp2_with fail
      refine (zz_any (nRest rest true f) (nOk rest true f) s hr1 _).mono ?_
      rintro e w2 ⟨rfl, hb2⟩
      go_wp2_with fail
      refine (H3.out _).mono ?_
      rintro e w3 ⟨rfl, hb3⟩
      go_wp2_with fail
      refine (HA.out _).mono ?_
      rintro e w4 ⟨rfl, rfl⟩
      go_wp2_with fail
      go_ret
      exact ⟨rfl, (hb1.trans (hb2.mono hb1.size)).trans (hb3.mono (Nat.le_trans hb1.size hb2.size))⟩
    · have hle' : (rest.size : Int) < (f : Int) + s := by omega
      clear cf
      go_enter Try.func8, Try.ntmps8
      go_wp2_with (go_at_call 21; refine (zz21 _ _ _ _ hml _).mono ?_; rintro e w' ⟨rfl, rfl⟩)
      refine (zz_any rest true f h16 _).mono ?_
      rintro e w1 ⟨rfl, hb1⟩
      go_wp2_with fail
      refine (zz_any (nRest rest true f) (nOk rest true f) s hr1 _).mono ?_
      rintro e w2 ⟨rfl, hb2⟩
      go_wp2_with fail
      refine (H3.out _).mono ?_
      rintro e w3 ⟨rfl, hb3⟩
      go_wp2_with fail
      go_ret
      exact ⟨rfl, (hb1.trans (hb2.mono hb1.size)).trans (hb3.mono (Nat.le_trans hb1.size hb2.size))⟩

theorem lawB (rest : ByteArray) (ok : Bool) (first second : Int) (hs : rest.size ≤ maxLen) (w : World) :
    Calls Try.prog 8 #[.string rest, .bool ok, .int .i64 first, .int .i64 second] w (Good w) := by
  by_cases h : 65536 < (rest.size : Int) ∨ first < 0 ∨ second < 0 ∨ 65536 < first ∨ 65536 < second
  · exact lawB_early rest ok first second hs h w
  · obtain ⟨f, rfl⟩ := Int.eq_ofNat_of_zero_le (show 0 ≤ first by omega)
    obtain ⟨s, rfl⟩ := Int.eq_ofNat_of_zero_le (show 0 ≤ second by omega)
    cases hy : nOk rest ok (f + s) with
    | false => exact lawB_no rest ok f s (by omega) (by omega) (by omega) hy w
    | true =>
      have hok : ok = true := by cases ok with
        | true => rfl
        | false => cases hy
      subst hok
      exact lawB_yes rest f s (by omega) (by omega) (by omega) hy w
end Go.Proofs.Qxb6617931a.Walks
