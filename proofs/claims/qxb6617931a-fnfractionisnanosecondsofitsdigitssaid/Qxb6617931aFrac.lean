/- Seat b6617931a: (*reader).fraction, ZZFraction and the law FnFractionIsNanosecondsOfItsDigits walked. -/
import Derived.Test.Qxb6617931aNumber
import Derived.Test.Qxb6617931aPlainFrac
import Derived.Lib.Strings
namespace Go.Proofs.Qxb6617931a.Walks
open Go.RowKit
open Go.Proofs.Qxb6617931a.Plain

theorem zz13 (s : ByteArray) (b : Bool) (hs : s.size ≤ maxLen) (w : World) : Calls Try.prog 13 #[.string s, .bool b] w fun e w' => e = .returned (.bool (decide ((s.size : Int) ≤ 1048576))) ∧ w' = w := by
  unfold maxLen at hs
  by_cases h : (s.size : Int) ≤ 1048576
  · go_enter Try.func13, Try.ntmps13
    go_wp2
    go_ret
    exact ⟨by simp [h], rfl⟩
  · go_enter Try.func13, Try.ntmps13
    go_wp2
    go_ret
    exact ⟨by simp [h], rfl⟩

theorem leading_any (s : ByteArray) (hs : s.size ≤ 65536) (w : World) :
    Calls Try.prog 15 #[.string s] w fun e w' => e = .returned (.int .i64 (lead s.data.toList)) ∧ w' = w := by
  go_enter Try.func15, Try.ntmps15
  go_wp2
  go_loop [3] (fun i => ∃ j : Nat, j ≤ s.size ∧ i = .int .i64 j ∧ allD (s.data.toList.take j) = true) (fun i => s.size - (intOf i).toNat)
  case atStart => exact ⟨0, Nat.zero_le _, rfl, rfl⟩
  case round =>
    obtain ⟨j, hj, rfl, hall⟩ := hrel
    have HA : Hid (allD (s.data.toList.take j) = true) := hall
    clear hall
    by_cases hlt : j < s.size
    · by_cases hd : isD (s[j].toNat : Int) = true
      · go_wp2_with (go_at_call 23; refine (isDigit_any _ _).mono ?_; rintro e w' ⟨rfl, rfl⟩)
        go_round
        case rel => exact ⟨j + 1, by omega, by go_num, by rw [take_snoc s j hlt, allD_snoc, HA.out, hd]; rfl⟩
        case measure => simp [intOf]; omega
      · have hd' : isD (s[j].toNat : Int) = false := by simpa using hd
        clear hd
        go_wp2_with (go_at_call 23; refine (isDigit_any _ _).mono ?_; rintro e w' ⟨rfl, rfl⟩)
        go_ret
        exact ⟨ret_int (by rw [lead_eq s.data.toList j (by simpa using hj) HA.out (fun _ => hd')]), rfl⟩
    · go_wp2
      go_ret
      exact ⟨ret_int (by rw [lead_eq s.data.toList j (by simpa using hj) HA.out (fun h => absurd h (by simp; exact Nat.le_of_not_lt hlt))]), rfl⟩

/-- Does the text open with a dot? -/
def dotB (s : ByteArray) : Bool := if h : 0 < s.size then (s[0].toNat : Int) == 46 else false

theorem one_of (s : ByteArray) (h : 0 < s.size) : (s.extract 0 1).toList = [s[0]] := by
  rw [Lib.extract_toList]
  have : s.data.toList.drop 0 = s[0] :: s.data.toList.drop 1 := List.drop_eq_getElem_cons (by simpa using h)
  rw [this]; rfl

theorem prefix_dot (s : ByteArray) (hs : s.size ≤ 65536) (w : World) :
    Calls Try.prog 26 #[.string s, .string ⟨#[46]⟩] w fun e w' => e = .returned (.bool (dotB s)) ∧ w' = w := by
  by_cases h : 0 < s.size
  · have h1 : (1 : Int) ≤ s.size := by omega
    have H : Hid (((s.extract 0 1).toList == [46]) = dotB s) := by
      show _ = _
      rw [one_of s h]
      simp only [dotB, h, dite_true]
      rw [Bool.eq_iff_iff]
      simp
      constructor
      · intro e; rw [e]; rfl
      · intro e; exact UInt8.toNat_inj.1 (by have h46 : (46 : UInt8).toNat = 46 := rfl; omega)
    go_enter Try.func26, Try.ntmps26
    go_wp2
    go_ret
    exact ⟨ret_bool H.out, rfl⟩
  · have h0 : s.size = 0 := by omega
    go_enter Try.func26, Try.ntmps26
    go_wp2
    go_ret
    exact ⟨ret_bool (by simp [dotB, h]), rfl⟩

theorem frac_off (rest : ByteArray) (ok : Bool) (b : Nat) (w : World) (hs : rest.size ≤ 65536) (h : ok = false ∨ dotB rest = false)
    (c0 : w.cell? ⟨b, 0, none⟩ = some (.string rest)) (c1 : w.cell? ⟨b, 1, none⟩ = some (.bool ok)) :
    Calls Try.prog 24 #[.pointer (some ⟨b, 0, none⟩)] w fun e w' => e = .returned (.int .i64 0) ∧ w' = w := by
  cases ok with
  | false =>
    clear h
    go_enter Try.func24, Try.ntmps24
    go_wp2
    go_ret
    exact ⟨rfl, rfl⟩
  | true =>
    have h' : dotB rest = false := by simpa using h
    clear h
    go_enter Try.func24, Try.ntmps24
    go_wp2_with (go_at_call 26; refine (prefix_dot rest hs _).mono ?_; rintro e w' ⟨rfl, rfl⟩)
    go_ret
    exact ⟨rfl, rfl⟩

/-- What 'fraction' leaves behind a dot. -/
def FracOn (b : Nat) (rest : ByteArray) (k : Nat) (w : World) (e : Ending) (w' : World) : Prop :=
  Below b w w' ∧
  ((k = 0 ∧ e = .returned (.int .i64 0) ∧ w'.cell? ⟨b, 0, none⟩ = some (.string rest) ∧ w'.cell? ⟨b, 1, none⟩ = some (.bool false)) ∨
   (1 ≤ k ∧ e = .returned (.int .i64 (nsTo rest k 9)) ∧ w'.cell? ⟨b, 0, none⟩ = some (.string (rest.extract (1 + k) rest.size)) ∧ w'.cell? ⟨b, 1, none⟩ = some (.bool true)))

theorem digs_of (rest : ByteArray) (p : Nat) (h1 : 1 ≤ p) (hp : p ≤ rest.size) (hall : allD ((rest.data.toList.drop 1).take (p - 1)) = true) : Digs rest (p - 1) := by
  intro i hi
  have := allD_mem hall i (by simp; show i < min (p - 1) (rest.size - 1); omega)
  simp at this
  unfold dig
  rw [dif_pos (by omega)]
  have e : rest.data[i + 1]'(by show i + 1 < rest.size; omega) = rest[1 + i]'(by omega) := by
    show rest[i + 1]'(by omega) = _
    congr 1
    omega
  rw [e] at this
  omega
theorem snoc_drop (rest : ByteArray) (p : Nat) (h1 : 1 ≤ p) (hp : p < rest.size) : (rest.data.toList.drop 1).take (p + 1 - 1) = (rest.data.toList.drop 1).take (p - 1) ++ [rest[p]] := by
  have hl : p - 1 < (rest.data.toList.drop 1).length := by simp; show p - 1 < rest.size - 1; omega
  rw [show p + 1 - 1 = (p - 1) + 1 by omega, List.take_succ_eq_append_getElem hl]
  congr 2
  simp
  show rest[p - 1 + 1]'(by omega) = rest[p]
  congr 1
  omega

/-- With how many digits does the text go on behind its first byte? -/
def fk (rest : ByteArray) : Nat := lead (rest.data.toList.drop 1)
theorem fk_eq (rest : ByteArray) (p : Nat) (h1 : 1 ≤ p) (hp : p ≤ rest.size) (hall : allD ((rest.data.toList.drop 1).take (p - 1)) = true) (hend : ∀ h : p < rest.size, isD (rest[p].toNat : Int) = false) : fk rest = p - 1 := by
  refine lead_eq _ _ (by rw [List.length_drop]; show p - 1 ≤ rest.size - 1; omega) hall (fun h => ?_)
  have hlt : p < rest.size := by simp at h; have h : p - 1 < rest.size - 1 := h; omega
  have := hend hlt
  have e : (rest.data.toList.drop 1)[p - 1] = rest[p] := by
    simp
    show rest[p - 1 + 1]'(by omega) = rest[p]
    congr 1
    omega
  rw [e]; exact this

theorem on_none {b : Nat} {rest : ByteArray} {w : World} (hk : fk rest = 0) (c0 : w.cell? ⟨b, 0, none⟩ = some (.string rest)) (c1 : w.cell? ⟨b, 1, none⟩ = some (.bool true)) :
    FracOn b rest (fk rest) w (.returned (.int .i64 0)) (w.setCell ⟨b, 1, none⟩ (.bool false)) :=
  ⟨(Below.refl _ _).setCell (p := ⟨b, _, none⟩) (Nat.le_refl _) _, .inl ⟨hk, rfl, (at0_set1 _ _ _).trans c0, World.cell?_setCell_same _ _ _ c1⟩⟩
theorem on_some {b p : Nat} {rest : ByteArray} {w : World} (hk : fk rest = p - 1) (hp : 2 ≤ p) (c0 : w.cell? ⟨b, 0, none⟩ = some (.string rest)) (c1 : w.cell? ⟨b, 1, none⟩ = some (.bool true)) :
    FracOn b rest (fk rest) w (.returned (.int .i64 (nsTo rest (p - 1) 9))) (w.setCell ⟨b, 0, none⟩ (.string (rest.extract p rest.size))) := by
  refine ⟨(Below.refl _ _).setCell (p := ⟨b, _, none⟩) (Nat.le_refl _) _, .inr ⟨by omega, by rw [hk], ?_, (at1_set0 _ _ _).trans c1⟩⟩
  rw [hk, show 1 + (p - 1) = p by omega]
  exact World.cell?_setCell_same _ _ _ c0

theorem cut_dig (rest : ByteArray) (p j : Nat) (hp : p ≤ rest.size) (hj : j < p - 1) (h : j < (rest.extract 1 p).size) (h1 : 48 ≤ ((rest[1 + j]'(by omega)).toNat : Int)) (h2 : ((rest[1 + j]'(by omega)).toNat : Int) ≤ 57) :
    ((((rest.extract 1 p)[j]).toNat : Int) - 48) % 256 = dig rest j := by
  have e : (rest.extract 1 p)[j] = rest[1 + j]'(by omega) := by simp [ByteArray.getElem_extract]
  rw [e]
  unfold dig
  rw [dif_pos (by omega)]
  omega
theorem ns_in (rest : ByteArray) (k j : Nat) (h : j < k) : nsTo rest k j * 10 + dig rest j = nsTo rest k (j + 1) := by simp [nsTo, h]
theorem ns_out (rest : ByteArray) (k j : Nat) (h : ¬ j < k) : nsTo rest k j * 10 = nsTo rest k (j + 1) := by simp [nsTo, h]
theorem dig_at (rest : ByteArray) (i : Nat) (h : 1 + i < rest.size) : dig rest i = (rest[1 + i].toNat : Int) - 48 := by simp [dig, h]

set_option maxHeartbeats 1000000 in
theorem frac_on (rest : ByteArray) (b : Nat) (w : World) (hs : rest.size ≤ 65536) (hdot : dotB rest = true)
    (c0 : w.cell? ⟨b, 0, none⟩ = some (.string rest)) (c1 : w.cell? ⟨b, 1, none⟩ = some (.bool true)) (f0 : w.frozen? ⟨b, 0, none⟩ = false) (f1 : w.frozen? ⟨b, 1, none⟩ = false) :
    Calls Try.prog 24 #[.pointer (some ⟨b, 0, none⟩)] w (FracOn b rest (fk rest) w) := by
  have h0 : 0 < rest.size := by
    by_cases h : 0 < rest.size
    · exact h
    · simp [dotB, h] at hdot
  go_enter Try.func24, Try.ntmps24
  go_wp2_with (go_at_call 26; refine (prefix_dot rest hs _).mono ?_; rintro e w' ⟨rfl, rfl⟩)
  clear hdot
  go_loop [3] (fun i => ∃ p : Nat, 1 ≤ p ∧ p ≤ rest.size ∧ i = .int .i64 p ∧ allD ((rest.data.toList.drop 1).take (p - 1)) = true) (fun i => rest.size - (intOf i).toNat)
  case atStart => exact ⟨1, Nat.le_refl _, h0, rfl, rfl⟩
  case round =>
    obtain ⟨p, hp1, hp, rfl, hall⟩ := hrel
    have HA : Hid (allD ((rest.data.toList.drop 1).take (p - 1)) = true) := hall
    clear hall
    by_cases hgo : ∃ h : p < rest.size, 48 ≤ (rest[p].toNat : Int) ∧ (rest[p].toNat : Int) ≤ 57
    · obtain ⟨hlt, hd1, hd2⟩ := hgo
      go_wp2
      go_round
      case rel => exact ⟨p + 1, by omega, by omega, by go_num, by rw [snoc_drop rest p hp1 hlt, allD_snoc, HA.out, (isD_iff _).2 ⟨hd1, hd2⟩]; rfl⟩
      case measure => simp [intOf]; omega
    · have hend : ∀ h : p < rest.size, isD (rest[p].toNat : Int) = false := by
        intro h
        cases hb : isD (rest[p].toNat : Int) with
        | false => rfl
        | true => exact absurd ⟨h, (isD_iff _).1 hb⟩ hgo
      have HK : Hid (fk rest = p - 1) := fk_eq rest p hp1 hp HA.out hend
      have HD : Hid (Digs rest (p - 1)) := digs_of rest p hp1 hp HA.out
      have hx : rest.size ≤ p ∨ (∃ h : p < rest.size, (rest[p].toNat : Int) < 48) ∨ (∃ h : p < rest.size, 48 ≤ (rest[p].toNat : Int) ∧ 57 < (rest[p].toNat : Int)) := by
        by_cases h : p < rest.size
        · have := (isD_no _).1 (hend h)
          by_cases h2 : (rest[p].toNat : Int) < 48
          · exact .inr (.inl ⟨h, h2⟩)
          · exact .inr (.inr ⟨h, by omega, by omega⟩)
        · exact .inl (by omega)
      clear hend hgo HA
      by_cases hz : p = 1
      · subst hz
        rcases hx with hx | ⟨hlt, hx⟩ | ⟨hlt, hx1, hx2⟩
        all_goals
          go_wp2
          go_ret
          exact on_none HK.out c0 c1
      · have hp2 : 2 ≤ p := by omega
        have hne : (rest.extract 1 p).toList.isEmpty = false := by
          have hl : (rest.extract 1 p).toList.length = p - 1 := by
            rw [Lib.extract_toList, List.length_take, List.length_drop]
            show min (p - 1) (rest.size - 1) = p - 1
            omega
          cases hc : (rest.extract 1 p).toList with
          | nil => rw [hc] at hl; simp at hl; omega
          | cons _ _ => rfl
        rcases hx with hx | ⟨hlt, hx⟩ | ⟨hlt, hx1, hx2⟩
        all_goals
          go_wp2
          go_loop [5, 67] (fun n i => ∃ j : Nat, j ≤ 9 ∧ i = .int .i64 j ∧ n = .int .i64 (nsTo rest (p - 1) j)) (fun _ i => 9 - (intOf i).toNat)
          case atStart => exact ⟨0, Nat.zero_le _, rfl, rfl⟩
          case round =>
            obtain ⟨j, hj, rfl, rfl⟩ := hrel
            by_cases h9 : j < 9
            · have hr := nsTo_rng rest (p - 1) HD.out j
              have hp8 := pow_le8 j (by omega)
              have hr1 : 0 ≤ nsTo rest (p - 1) j := hr.1
              have hr2 : nsTo rest (p - 1) j ≤ 99999999 := by omega
              clear hr hp8
              by_cases hjk : j < p - 1
              · have hdg := HD.out j hjk
                have hlt1 : 1 + j < rest.size := by omega
                rw [dig_at rest j hlt1] at hdg
                have hd1 : 48 ≤ (rest[1 + j].toNat : Int) := by omega
                have hd2 : (rest[1 + j].toNat : Int) ≤ 57 := by omega
                clear hdg
                go_wp2
                go_round
                case rel => exact ⟨j + 1, by omega, by go_num, by rw [cut_dig rest p j hp hjk _ hd1 hd2, ns_in rest (p - 1) j hjk]⟩
                case measure => simp [intOf]; omega
              · go_wp2
                go_round
                case rel => exact ⟨j + 1, by omega, by go_num, by rw [ns_out rest (p - 1) j hjk]⟩
                case measure => simp [intOf]; omega
            · obtain rfl : j = 9 := by omega
              go_wp2
              go_ret
              exact on_some HK.out hp2 c0 c1
end Go.Proofs.Qxb6617931a.Walks
