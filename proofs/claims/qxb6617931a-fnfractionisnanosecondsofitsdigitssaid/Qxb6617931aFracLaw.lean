/- Seat b6617931a: ZZFraction by a contract; the law FnFractionIsNanosecondsOfItsDigits walked. -/
import Derived.Test.Qxb6617931aFrac
namespace Go.Proofs.Qxb6617931a.Walks
open Go.RowKit
open Go.Proofs.Qxb6617931a.Plain

theorem zzfrac_off (rest : ByteArray) (ok : Bool) (hs : rest.size ≤ 65536) (h : ok = false ∨ dotB rest = false) (w : World) :
    Calls Try.prog 14 #[.string rest, .bool ok] w fun e w' => e = .returned (.tuple #[.string rest, .bool ok, .int .i64 0]) ∧ Below w.heap.size w w' := by
  have H : Hid (ok = false ∨ dotB rest = false) := h
  clear h
  go_enter Try.func14, Try.ntmps14
  go_wp2_with fail
  refine (frac_off rest ok w.heap.size _ hs H.out ?_ ?_).mono ?_
  · simp
  · simp
  rintro e w1 ⟨rfl, rfl⟩
  go_wp2_with fail
  go_quiet (fail)
  go_wp2
  go_ret3
  exact ⟨rfl, below_draws ((Below.refl _ _).alloc (Nat.le_refl _) _) _⟩

theorem zzfrac_on (rest : ByteArray) (hs : rest.size ≤ 65536) (hdot : dotB rest = true) (w : World) :
    Calls Try.prog 14 #[.string rest, .bool true] w fun e w' => ((fk rest = 0 ∧ e = .returned (.tuple #[.string rest, .bool false, .int .i64 0])) ∨
      (1 ≤ fk rest ∧ e = .returned (.tuple #[.string (rest.extract (1 + fk rest) rest.size), .bool true, .int .i64 (nsTo rest (fk rest) 9)]))) ∧ Below w.heap.size w w' := by
  have H : Hid (dotB rest = true) := hdot
  clear hdot
  go_enter Try.func14, Try.ntmps14
  go_wp2_with fail
  refine (frac_on rest w.heap.size _ hs H.out ?_ ?_ ?_ ?_).mono ?_
  · simp
  · simp
  · simp
  · simp
  rintro e w1 ⟨hb, ⟨hk, rfl, hc0, hc1⟩ | ⟨hk, rfl, hc0, hc1⟩⟩
  · have HK : Hid (fk rest = 0) := hk
    clear hk
    go_wp2_with fail
    go_quiet (fail)
    go_wp2
    go_ret3
    exact ⟨.inl ⟨HK.out, rfl⟩, below_draws (((Below.refl _ _).alloc (Nat.le_refl _) _).trans hb) _⟩
  · go_wp2_with fail
    go_quiet (fail)
    go_wp2
    go_ret3
    exact ⟨.inr ⟨hk, rfl⟩, below_draws (((Below.refl _ _).alloc (Nat.le_refl _) _).trans hb) _⟩

theorem fk_le (rest : ByteArray) : fk rest ≤ rest.size - 1 := by
  have := lead_le (rest.data.toList.drop 1)
  rw [List.length_drop] at this
  exact this
theorem tail_lead (rest : ByteArray) : lead (rest.extract 1 rest.size).data.toList = fk rest := by
  rw [Lib.extract_data]
  unfold fk
  rw [List.take_of_length_le (by rw [List.length_drop]; exact Nat.le_refl (rest.size - 1))]
/-- The digits behind the dot. -/
theorem lead_digs (l : List UInt8) (i : Nat) (h : i < lead l) : ∃ hl : i < l.length, 48 ≤ (l[i].toNat : Int) ∧ (l[i].toNat : Int) ≤ 57 := by
  induction l generalizing i with
  | nil => simp [lead] at h
  | cons c l ih =>
    simp only [lead] at h
    split at h
    · rename_i hc
      cases i with
      | zero => exact ⟨by simp, (isD_iff _).1 hc⟩
      | succ i =>
        obtain ⟨hl, hd⟩ := ih i (by omega)
        exact ⟨Nat.succ_lt_succ hl, hd⟩
    · omega
theorem fk_digs (rest : ByteArray) : Digs rest (fk rest) := by
  intro i hi
  obtain ⟨hl, hd⟩ := lead_digs _ i hi
  have hl2 : 1 + i < rest.size := by rw [List.length_drop] at hl; have hl : i < rest.size - 1 := hl; omega
  rw [dig_at rest i hl2]
  have e : (rest.data.toList.drop 1)[i] = rest[1 + i] := by
    simp
    show rest[i + 1]'(by omega) = rest[1 + i]
    congr 1
    omega
  rw [e] at hd
  omega

theorem dot_at (rest : ByteArray) (h : 0 < rest.size) : dotB rest = ((rest[0].toNat : Int) == 46) := by simp [dotB, h]

set_option maxHeartbeats 1000000 in
theorem lawC (rest : ByteArray) (ok : Bool) (hs : rest.size ≤ maxLen) (w : World) :
    Calls Try.prog 4 #[.string rest, .bool ok] w (Good w) := by
  by_cases h20 : (rest.size : Int) ≤ 1048576
  case neg =>
    have hz : decide ((rest.size : Int) ≤ 1048576) = false := decide_eq_false h20
    go_enter Try.func4, Try.ntmps4
    go_wp2_with (go_at_call 13; refine (zz13 _ _ hs _).mono ?_; rintro e w' ⟨rfl, rfl⟩)
    go_ret
    exact ⟨rfl, Below.refl _ _⟩
  have hz : decide ((rest.size : Int) ≤ 1048576) = true := decide_eq_true h20
  by_cases h16 : (rest.size : Int) ≤ 65536
  case neg =>
    go_enter Try.func4, Try.ntmps4
    go_wp2_with (go_at_call 13; refine (zz13 _ _ hs _).mono ?_; rintro e w' ⟨rfl, rfl⟩)
    go_ret
    exact ⟨rfl, Below.refl _ _⟩
  have h16' : rest.size ≤ 65536 := by omega
  cases ok with
  | false =>
    go_enter Try.func4, Try.ntmps4
    go_wp2_with (first | (go_at_call 13; refine (zz13 _ _ hs _).mono ?_; rintro e w' ⟨rfl, rfl⟩) | (go_at_call 14; refine (zzfrac_off rest false h16' (.inl rfl) _).mono ?_; rintro e w' ⟨rfl, hb⟩))
    go_ret
    exact ⟨rfl, by assumption⟩
  | true =>
    by_cases hz0 : rest.size = 0
    · have hdot : dotB rest = false := by simp [dotB, hz0]
      have hzb : ((rest.size : Int) == 0) = true := by simp [hz0]
      go_enter Try.func4, Try.ntmps4
      go_wp2_with (first | (go_at_call 13; refine (zz13 _ _ hs _).mono ?_; rintro e w' ⟨rfl, rfl⟩) | (go_at_call 14; refine (zzfrac_off rest true h16' (.inr hdot) _).mono ?_; rintro e w' ⟨rfl, hb⟩))
      go_ret
      exact ⟨rfl, by assumption⟩
    · have hpos : 0 < rest.size := by omega
      have hzb : ((rest.size : Int) == 0) = false := by rw [beq_eq_false_iff_ne]; omega
      cases hdot : dotB rest with
      | false =>
        have hne : ((rest[0].toNat : Int) != 46) = true := by rw [dot_at rest hpos] at hdot; simp [bne, hdot]
        have HD : Hid (dotB rest = false) := hdot
        clear hdot
        go_enter Try.func4, Try.ntmps4
        go_wp2_with (first | (go_at_call 13; refine (zz13 _ _ hs _).mono ?_; rintro e w' ⟨rfl, rfl⟩) | (go_at_call 14; refine (zzfrac_off rest true h16' (.inr HD.out) _).mono ?_; rintro e w' ⟨rfl, hb⟩))
        go_ret
        exact ⟨rfl, by assumption⟩
      | true =>
        have hne : ((rest[0].toNat : Int) != 46) = false := by rw [dot_at rest hpos] at hdot; simp [bne, hdot]
        have HD : Hid (dotB rest = true) := hdot
        clear hdot
        have hfk := fk_le rest
        have hcs : (rest.extract 1 rest.size).size ≤ 65536 := by simp; omega
        have HL : Hid (∀ w, Calls Try.prog 15 #[.string (rest.extract 1 rest.size)] w fun e w' => e = .returned (.int .i64 (fk rest)) ∧ w' = w) := fun w => by
          have := leading_any (rest.extract 1 rest.size) hcs w
          rw [tail_lead] at this
          exact this
        go_enter Try.func4, Try.ntmps4
        go_wp2_with (go_at_call 13; refine (zz13 _ _ hs _).mono ?_; rintro e w' ⟨rfl, rfl⟩)
        refine (zzfrac_on rest h16' HD.out _).mono ?_
        rintro e w1 ⟨⟨hk, rfl⟩ | ⟨hk, rfl⟩, hb⟩
        · have hkb : ((fk rest : Int) == 0) = true := by simp [hk]
          clear hk
          go_wp2_with (go_at_call 15; refine (HL.out _).mono ?_; rintro e w' ⟨rfl, rfl⟩)
          go_ret
          exact ⟨rfl, hb⟩
        · have hkb : ((fk rest : Int) == 0) = false := by rw [beq_eq_false_iff_ne]; omega
          have hk1 : fk rest + 1 ≤ rest.size := by omega
          go_wp2_with (go_at_call 15; refine (HL.out _).mono ?_; rintro e w' ⟨rfl, rfl⟩)
          have HG : Hid (Digs rest (fk rest)) := fk_digs rest
          go_loop [9, 10, 11] (fun a p i => ∃ j : Nat, j ≤ 9 ∧ j ≤ fk rest ∧ i = .int .i64 j ∧ p = .int .i64 (pl j) ∧ a = .int .i64 (nsTo rest (fk rest) j * 10 ^ (9 - j))) (fun _ _ i => 9 - (intOf i).toNat)
          case atStart => exact ⟨0, Nat.zero_le _, Nat.zero_le _, rfl, rfl, rfl⟩
          case round =>
            obtain ⟨j, hj9, hjk, rfl, rfl, rfl⟩ := hrel
            by_cases hgo : j < fk rest ∧ j < 9
            · obtain ⟨h1, h2⟩ := hgo
              have hdg := HG.out j h1
              have hlt1 : 1 + j < rest.size := by omega
              rw [dig_at rest j hlt1] at hdg
              have hd1 : 48 ≤ (rest[1 + j].toNat : Int) := by omega
              have hd2 : (rest[1 + j].toNat : Int) ≤ 57 := by omega
              clear hdg
              have hp := pl_rng j
              obtain ⟨hp1, hp2⟩ := hp
              go_wp2
              go_round
              case rel => exact ⟨j + 1, by omega, by omega, by go_num, by rw [pl_step], by rw [← dig_at rest j hlt1, want_wrap rest (fk rest) j HG.out h1 (by omega)]⟩
              case measure => simp [intOf]; omega
            · have hw := want_done rest (fk rest) j hj9 hjk (by omega)
              by_cases h1 : j < fk rest
              · have h2 : ¬ j < 9 := by omega
                clear hgo
                go_wp2
                go_ret
                exact ⟨rfl, hb⟩
              · clear hgo
                go_wp2
                go_ret
                exact ⟨rfl, hb⟩
end Go.Proofs.Qxb6617931a.Walks
