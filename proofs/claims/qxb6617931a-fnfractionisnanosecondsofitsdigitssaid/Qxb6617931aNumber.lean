/- Walks over seat b6617931a: ZZNumber by a contract; the laws FnNumberReadsDigitsAsDecimalValue and FnNumberSplitsAtAnyCut walked. -/
import Derived.Test.Qxb6617931aWalks
namespace Go.Proofs.Qxb6617931a.Walks
open Go.RowKit
open Go.Proofs.Qxb6617931a.Plain

theorem below_draws {B : Nat} {a w : World} (h : Below B a w) (n : Nat) : Below B a (w.drewN n) := ⟨h.os, h.tape, h.output, h.size, h.block⟩

theorem zznum_bad (rest : ByteArray) (ok : Bool) (digits least most : Int) (h : ok = false ∨ (rest.size : Int) < digits) (w : World) :
    Calls Try.prog 10 #[.string rest, .bool ok, .int .i64 digits, .int .i64 least, .int .i64 most] w fun e w' => e = .returned (.tuple #[.string rest, .bool false, .int .i64 0]) ∧ Below w.heap.size w w' := by
  have H : Hid (ok = false ∨ (rest.size : Int) < digits) := h
  clear h
  go_enter Try.func10, Try.ntmps10
  go_wp2_with fail
  refine (number_bad rest ok digits least most w.heap.size _ H.out ?_ ?_ ?_ ?_).mono ?_
  · simp
  · simp
  · simp
  · simp
  rintro e w1 ⟨rfl, hc0, hc1, hb⟩
  go_wp2_with fail
  go_quiet (fail)
  go_wp2
  go_ret3
  exact ⟨rfl, below_draws (((Below.refl _ _).alloc (Nat.le_refl _) _).trans hb) _⟩

theorem zznum_loop (rest : ByteArray) (k : Nat) (least most : Int) (hs : rest.size ≤ 65536) (h : k ≤ rest.size) (w : World) :
    Calls Try.prog 10 #[.string rest, .bool true, .int .i64 k, .int .i64 least, .int .i64 most] w fun e w' =>
      ((allD (rest.data.toList.take k) = false ∧ e = .returned (.tuple #[.string rest, .bool false, .int .i64 0])) ∨
       (allD (rest.data.toList.take k) = true ∧ e = .returned (.tuple #[.string (rest.extract k rest.size), .bool (inR least most (wrap64 (val (rest.data.toList.take k)))), .int .i64 (wrap64 (val (rest.data.toList.take k)))]))) ∧
      Below w.heap.size w w' := by
  go_enter Try.func10, Try.ntmps10
  go_wp2_with fail
  refine (number_loop rest k least most w.heap.size _ hs h ?_ ?_ ?_ ?_ ?_).mono ?_
  · simp
  · simp
  · simp
  · simp
  · simp
  rintro e w1 (⟨hall, rfl, hc0, hc1, hb⟩ | ⟨hall, rfl, hc0, hc1, hb⟩)
  · have HA : Hid (allD (rest.data.toList.take k) = false) := hall
    clear hall
    go_wp2_with fail
    go_quiet (fail)
    go_wp2
    go_ret3
    exact ⟨.inl ⟨HA.out, rfl⟩, below_draws (((Below.refl _ _).alloc (Nat.le_refl _) _).trans hb) _⟩
  · have HA : Hid (allD (rest.data.toList.take k) = true) := hall
    clear hall
    go_wp2_with fail
    go_quiet (fail)
    go_wp2
    go_ret3
    exact ⟨.inr ⟨HA.out, rfl⟩, below_draws (((Below.refl _ _).alloc (Nat.le_refl _) _).trans hb) _⟩

/-- ZZNumber where it does not read. -/
theorem zznum_no (rest : ByteArray) (ok : Bool) (k : Nat) (least most : Int) (hs : rest.size ≤ 65536) (h : ok = false ∨ rest.size < k ∨ allD (rest.data.toList.take k) = false) (w : World) :
    Calls Try.prog 10 #[.string rest, .bool ok, .int .i64 k, .int .i64 least, .int .i64 most] w fun e w' => e = .returned (.tuple #[.string rest, .bool false, .int .i64 0]) ∧ Below w.heap.size w w' := by
  by_cases h1 : ok = false ∨ rest.size < k
  · refine zznum_bad rest ok k least most ?_ w
    rcases h1 with h1 | h1
    · exact .inl h1
    · exact .inr (by omega)
  · have hok : ok = true := by cases ok <;> simp_all
    subst hok
    refine (zznum_loop rest k least most hs (by omega) w).mono ?_
    rintro e w' ⟨⟨_, rfl⟩ | ⟨hall, _⟩, hb⟩
    · exact ⟨rfl, hb⟩
    · rw [hall] at h; simp at h; simp at h1; omega
/-- ZZNumber where it reads. -/
theorem zznum_yes (rest : ByteArray) (k : Nat) (least most : Int) (hs : rest.size ≤ 65536) (h : k ≤ rest.size) (hall : allD (rest.data.toList.take k) = true) (w : World) :
    Calls Try.prog 10 #[.string rest, .bool true, .int .i64 k, .int .i64 least, .int .i64 most] w fun e w' =>
      e = .returned (.tuple #[.string (rest.extract k rest.size), .bool (inR least most (wrap64 (val (rest.data.toList.take k)))), .int .i64 (wrap64 (val (rest.data.toList.take k)))]) ∧ Below w.heap.size w w' := by
  refine (zznum_loop rest k least most hs h w).mono ?_
  rintro e w' ⟨⟨hf, _⟩ | ⟨_, rfl⟩, hb⟩
  · rw [hall] at hf; cases hf
  · exact ⟨rfl, hb⟩

/-- Leaving a law early: it answered true, and nothing that was there has turned. -/
def Good (w : World) (e : Ending) (w' : World) : Prop := e = .returned (.bool true) ∧ Below w.heap.size w w'

theorem lawA (rest : ByteArray) (ok : Bool) (digits least most : Int) (hs : rest.size ≤ maxLen) (w : World) :
    Calls Try.prog 3 #[.string rest, .bool ok, .int .i64 digits, .int .i64 least, .int .i64 most] w (Good w) := by
  by_cases h20 : (rest.size : Int) ≤ 1048576
  case neg =>
    have hz : decide ((rest.size : Int) ≤ 1048576) = false := decide_eq_false h20
    go_enter Try.func3, Try.ntmps3
    go_wp2_with (go_at_call 9; refine (zz9 _ _ _ _ _ hs _).mono ?_; rintro e w' ⟨rfl, rfl⟩)
    go_ret
    exact ⟨rfl, Below.refl _ _⟩
  have hz : decide ((rest.size : Int) ≤ 1048576) = true := decide_eq_true h20
  by_cases h16 : (rest.size : Int) ≤ 65536
  case neg =>
    go_enter Try.func3, Try.ntmps3
    go_wp2_with (go_at_call 9; refine (zz9 _ _ _ _ _ hs _).mono ?_; rintro e w' ⟨rfl, rfl⟩)
    go_ret
    exact ⟨rfl, Below.refl _ _⟩
  by_cases h0 : digits < 0
  case pos =>
    go_enter Try.func3, Try.ntmps3
    go_wp2_with (go_at_call 9; refine (zz9 _ _ _ _ _ hs _).mono ?_; rintro e w' ⟨rfl, rfl⟩)
    go_ret
    exact ⟨rfl, Below.refl _ _⟩
  obtain ⟨k, rfl⟩ := Int.eq_ofNat_of_zero_le (show 0 ≤ digits by omega)
  have h16' : rest.size ≤ 65536 := by omega
  cases ok with
  | false =>
    go_enter Try.func3, Try.ntmps3
    go_wp2_with (first | (go_at_call 9; refine (zz9 _ _ _ _ _ hs _).mono ?_; rintro e w' ⟨rfl, rfl⟩) | (go_at_call 10; refine (zznum_no rest false k least most h16' (.inl rfl) _).mono ?_; rintro e w' ⟨rfl, hb⟩))
    go_ret
    exact ⟨rfl, by assumption⟩
  | true =>
    by_cases hk : k ≤ rest.size
    case neg =>
      have hk' : rest.size < k := by omega
      go_enter Try.func3, Try.ntmps3
      go_wp2_with (first | (go_at_call 9; refine (zz9 _ _ _ _ _ hs _).mono ?_; rintro e w' ⟨rfl, rfl⟩) | (go_at_call 10; refine (zznum_no rest true k least most h16' (.inr (.inl hk')) _).mono ?_; rintro e w' ⟨rfl, hb⟩))
      go_ret
      exact ⟨rfl, by assumption⟩
    cases hall : allD (rest.data.toList.take k) with
    | false =>
      go_enter Try.func3, Try.ntmps3
      go_wp2_with (first | (go_at_call 9; refine (zz9 _ _ _ _ _ hs _).mono ?_; rintro e w' ⟨rfl, rfl⟩) | (go_at_call 10; refine (zznum_no rest true k least most h16' (.inr (.inr hall)) _).mono ?_; rintro e w' ⟨rfl, hb⟩) | (go_at_call 11; refine (allDigits_any rest k hk h16' _).mono ?_; rintro e w' ⟨rfl, rfl⟩))
      go_ret
      exact ⟨rfl, by assumption⟩
    | true =>
      go_enter Try.func3, Try.ntmps3
      go_wp2_with (first | (go_at_call 9; refine (zz9 _ _ _ _ _ hs _).mono ?_; rintro e w' ⟨rfl, rfl⟩) | (go_at_call 10; refine (zznum_yes rest k least most h16' hk hall _).mono ?_; rintro e w' ⟨rfl, hb⟩) | (go_at_call 11; refine (allDigits_any rest k hk h16' _).mono ?_; rintro e w' ⟨rfl, rfl⟩) | (go_at_call 12; refine (valueFromRight_any rest k hk h16' hall _).mono ?_; rintro e w' ⟨rfl, rfl⟩))
      all_goals
        go_ret
        refine ⟨ret_bool ?_, by assumption⟩
        simp [inR]
        try omega
end Go.Proofs.Qxb6617931a.Walks
