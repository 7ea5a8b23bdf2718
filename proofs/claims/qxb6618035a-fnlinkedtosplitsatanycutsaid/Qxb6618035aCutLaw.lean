/- Walks over seat b6618035a: the law FnLinkedToSplitsAtAnyCut where places is nil; the law whole. -/
import Derived.Test.Qxb6618035aCut
namespace Go.Proofs.Qxb6618035a.Walks
open Go.RowKit
open Go.Proofs.Qxb6618035a.Plain

set_option maxRecDepth 100000 in
set_option maxHeartbeats 2000000 in
theorem cut_nil (t : Tbl) (C : Nat) (k : Int) (hN : t.N ≤ 65536) (w : World) (hT : t.In w) :
    Calls Try.prog 4 #[.slice t.A t.N C, .slice none 0 0, .int .i64 k] w (Good w) := by
  have hne := fun w => run_neq_slice_nil_any (P := Try.prog) w 22 3 none 0 0 0 0 Try.underlying22
  have HT : Hid (t.In w) := hT
  clear hT
  go_enter Try.func4, Try.ntmps4
  go_wp2_with fail
  refine (zz11 t C none 0 0 k (by unfold maxLen; omega) (by unfold maxLen; omega) _ HT.out).mono ?_
  rintro e w1 ⟨b, rfl, hb, hw⟩
  have hw' := hw.symm; clear hw; subst hw'
  cases b with
  | false =>
    clear hb
    go_wp2
    go_ret
    exact ⟨rfl, Below.refl _ _⟩
  | true =>
    have HS : Hid (Short t) := hb rfl
    clear hb
    go_wp2_with fail
    go_loop [8, 9] (fun x y => ∃ i : Nat, i ≤ t.N ∧ y = .int .i64 i ∧ ∃ z : Int, x = .int .i64 z ∧ 0 ≤ z ∧ z ≤ 1048576) (fun _ y => t.N - (intOf y).toNat)
    case atStart => exact ⟨0, Nat.zero_le _, rfl, _, rfl, by omega, by omega⟩
    case round =>
      obtain ⟨i, hi, rfl, z, rfl, z0, z1⟩ := hrel
      by_cases hlt : i < t.N
      · obtain ⟨b, off, hA, hc⟩ := HT.out.head (by omega)
        have hcell := hc i hlt
        have hsh := HS.out i hlt
        clear hc
        generalize t.A = A at *
        subst hA
        by_cases g2 : z + 8 * t.rn i ≤ 1048576
        · go_wp2
          go_round
          case rel => exact ⟨i + 1, by omega, by go_num, _, rfl, by omega, by omega⟩
          case measure => simp [intOf]; omega
        · go_wp2
          go_ret
          exact ⟨rfl, Below.refl _ _⟩
      · have hiN : ¬ i < t.N := hlt
        by_cases k0 : k < 0
        · go_wp2
          go_ret
          exact ⟨rfl, Below.refl _ _⟩
        by_cases k1 : 0 < k
        · go_wp2
          go_ret
          exact ⟨rfl, Below.refl _ _⟩
        obtain rfl : k = 0 := by omega
        clear k0 k1
        go_wp2_with fail
        refine wp_loop_rounds 1 ?_
        rw [rounds_succ]
        go_wp2_with fail
        refine (zzlk_zero t C none 0 _).mono ?_
        rintro e w3 ⟨aW, cW, rfl, hb3⟩
        have HB3 : Hid (Below w.heap.size w w3) := hb3
        have hs3 : w.heap.size ≤ w3.heap.size := hb3.size
        clear hb3
        go_wp2_with fail
        refine (zzlk_zero t C none 0 _).mono ?_
        rintro e w4 ⟨aL, cL, rfl, hb4⟩
        have HB4 : Hid (Below w.heap.size w w4) := HB3.out.trans (hb4.mono hs3)
        have hs4 : w.heap.size ≤ w4.heap.size := Nat.le_trans hs3 hb4.size
        clear hb4 HB3
        go_wp2_with fail
        refine (zzlk_zero t C none 0 _).mono ?_
        rintro e w5 ⟨aR, cR, rfl, hb5⟩
        have HB5 : Hid (Below w.heap.size w w5) := HB4.out.trans (hb5.mono hs4)
        clear hb5 HB4
        go_wp2_with fail
        refine wp_loop_rounds 1 ?_
        rw [rounds_succ]
        go_wp2_with fail
        refine wp_loop_rounds 1 ?_
        rw [rounds_succ]
        go_wp2
        go_ret
        exact ⟨rfl, HB5.out⟩

theorem cut_any (t : Tbl) (C : Nat) (ap : Option Addr) (m cp : Nat) (f : Nat → Int) (k : Int) (hN : t.N ≤ maxLen) (hm : m ≤ maxLen) (hnil : ap = none → m = 0 ∧ cp = 0) (w : World) (hT : t.In w) (hR : Row w ap m f) :
    Calls Try.prog 4 #[.slice t.A t.N C, .slice ap m cp, .int .i64 k] w (Good w) := by
  by_cases h : 65536 < t.N ∨ 65536 < m
  · exact cut_early t C ap m cp k hN hm h w hT
  · cases ap with
    | none =>
      obtain ⟨rfl, rfl⟩ := hnil rfl
      exact cut_nil t C k (by omega) w hT
    | some ad => exact cut_main t C ad m cp f k (by omega) (by omega) w hT hR
end Go.Proofs.Qxb6618035a.Walks
