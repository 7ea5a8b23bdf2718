/- Walks over seat b6618035a: the two size checks over a table. -/
import Derived.Test.Qxb6618035aLinked
namespace Go.Proofs.Qxb6618035a.Walks
open Go.RowKit
open Go.Proofs.Qxb6618035a.Plain

/-- What a size check says where it says yes: every row is short. -/
def Short (t : Tbl) : Prop := ∀ r, r < t.N → t.rn r ≤ 1048576
def Checked (t : Tbl) (w : World) (e : Ending) (w' : World) : Prop := ∃ b, e = .returned (.bool b) ∧ (b = true → Short t) ∧ w' = w

theorem checked_no (t : Tbl) (w : World) : Checked t w (.returned (.bool false)) w := ⟨false, rfl, (fun h => by cases h), rfl⟩
theorem zz11 (t : Tbl) (C : Nat) (ap : Option Addr) (m cp : Nat) (k : Int) (hN : t.N ≤ maxLen) (hm : m ≤ maxLen) (w : World) (hT : t.In w) :
    Calls Try.prog 11 #[.slice t.A t.N C, .slice ap m cp, .int .i64 k] w (Checked t w) := by
  unfold maxLen at hN hm
  have HT : Hid (t.In w) := hT
  clear hT
  by_cases g : t.N ≤ 1048576
  case neg =>
    go_enter Try.func11, Try.ntmps11
    go_wp2
    go_ret
    exact checked_no t w
  go_enter Try.func11, Try.ntmps11
  go_wp2
  go_loop [7, 8] (fun x y => ∃ i : Nat, i ≤ t.N ∧ y = .int .i64 i ∧ (∃ z : Int, x = .int .i64 z ∧ 0 ≤ z ∧ z ≤ 1048576) ∧ ∀ r, r < i → t.rn r ≤ 1048576) (fun _ y => t.N - (intOf y).toNat)
  case atStart => exact ⟨0, Nat.zero_le _, rfl, ⟨_, rfl, by omega, by omega⟩, fun r h => absurd h (Nat.not_lt_zero r)⟩
  case round =>
    obtain ⟨i, hi, rfl, ⟨z, rfl, z0, z1⟩, hsh⟩ := hrel
    have HS : Hid (∀ r, r < i → t.rn r ≤ 1048576) := hsh
    clear hsh
    by_cases hlt : i < t.N
    · obtain ⟨b, off, hA, hc⟩ := HT.out.head (by omega)
      have hcell := hc i hlt
      clear hc
      generalize t.A = A at *
      subst hA
      by_cases g1 : t.rn i ≤ 1048576
      · by_cases g2 : z + t.rn i ≤ 1048576
        · go_wp2
          go_round
          case rel => exact ⟨i + 1, by omega, by go_num, ⟨_, rfl, by omega, by omega⟩, fun r hr => by
            by_cases e : r = i
            · subst e; exact g1
            · exact HS.out r (by omega)⟩
          case measure => simp [intOf]; omega
        · go_wp2
          go_ret
          exact checked_no t w
      · go_wp2
        go_ret
        exact checked_no t w
    · obtain rfl : i = t.N := by omega
      have HS' : Hid (Short t) := HS.out
      clear HS
      by_cases g1 : m ≤ 1048576
      · by_cases g2 : z + m ≤ 1048576
        · go_wp2
          go_ret
          exact ⟨true, rfl, fun _ => HS'.out, rfl⟩
        · go_wp2
          go_ret
          exact checked_no t w
      · go_wp2
        go_ret
        exact checked_no t w

theorem zz13 (t : Tbl) (C : Nat) (ap : Option Addr) (m cp : Nat) (k : Int) (hN : t.N ≤ maxLen) (hm : m ≤ maxLen) (w : World) (hT : t.In w) :
    Calls Try.prog 13 #[.slice t.A t.N C, .slice ap m cp, .int .i64 k] w (Checked t w) := by
  unfold maxLen at hN hm
  have HT : Hid (t.In w) := hT
  clear hT
  by_cases g : t.N ≤ 1048576
  case neg =>
    go_enter Try.func13, Try.ntmps13
    go_wp2
    go_ret
    exact checked_no t w
  go_enter Try.func13, Try.ntmps13
  go_wp2
  go_loop [7, 8] (fun x y => ∃ i : Nat, i ≤ t.N ∧ y = .int .i64 i ∧ (∃ z : Int, x = .int .i64 z ∧ 0 ≤ z ∧ z ≤ 1048576) ∧ ∀ r, r < i → t.rn r ≤ 1048576) (fun _ y => t.N - (intOf y).toNat)
  case atStart => exact ⟨0, Nat.zero_le _, rfl, ⟨_, rfl, by omega, by omega⟩, fun r h => absurd h (Nat.not_lt_zero r)⟩
  case round =>
    obtain ⟨i, hi, rfl, ⟨z, rfl, z0, z1⟩, hsh⟩ := hrel
    have HS : Hid (∀ r, r < i → t.rn r ≤ 1048576) := hsh
    clear hsh
    by_cases hlt : i < t.N
    · obtain ⟨b, off, hA, hc⟩ := HT.out.head (by omega)
      have hcell := hc i hlt
      clear hc
      generalize t.A = A at *
      subst hA
      by_cases g1 : t.rn i ≤ 1048576
      · by_cases g2 : z + t.rn i ≤ 1048576
        · go_wp2
          go_round
          case rel => exact ⟨i + 1, by omega, by go_num, ⟨_, rfl, by omega, by omega⟩, fun r hr => by
            by_cases e : r = i
            · subst e; exact g1
            · exact HS.out r (by omega)⟩
          case measure => simp [intOf]; omega
        · go_wp2
          go_ret
          exact checked_no t w
      · go_wp2
        go_ret
        exact checked_no t w
    · obtain rfl : i = t.N := by omega
      have HS' : Hid (Short t) := HS.out
      clear HS
      by_cases g1 : m ≤ 1048576
      · by_cases g2 : z + m ≤ 1048576
        · go_wp2
          go_ret
          exact ⟨true, rfl, fun _ => HS'.out, rfl⟩
        · go_wp2
          go_ret
          exact checked_no t w
      · go_wp2
        go_ret
        exact checked_no t w
end Go.Proofs.Qxb6618035a.Walks
