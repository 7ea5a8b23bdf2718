/- Walks over seat b6618000a: the law FnClosingQuoteKeepsWhatItFoundWhenTextGrows. -/
import Derived.Test.Qxb6618000aShift
namespace Go.Proofs.Qxb6618000a.Walks
open Go.RowKit
open Go.Proofs.Qxb6618000a.Plain

theorem zz18 (a0 a1 : Option Addr) (n0 c0 n1 c1 : Nat) (s : Int) (h0 : n0 ≤ maxLen) (h1 : n1 ≤ maxLen) (w : World) :
    Calls Try.prog 18 #[.slice a0 n0 c0, .slice a1 n1 c1, .int .i64 s] w fun e w' => e = .returned (.bool (decide (n0 + n1 ≤ 1048576))) ∧ w' = w := by
  unfold maxLen at h0 h1
  by_cases h : n0 + n1 ≤ 1048576
  · have g0 : n0 ≤ 1048576 := by omega
    have g1 : n1 ≤ 1048576 := by omega
    go_enter Try.func18, Try.ntmps18
    go_wp2
    go_ret
    exact ⟨by simp [h], rfl⟩
  · by_cases g0 : n0 ≤ 1048576
    · by_cases g1 : n1 ≤ 1048576
      · go_enter Try.func18, Try.ntmps18
        go_wp2
        go_ret
        exact ⟨by simp [h], rfl⟩
      · go_enter Try.func18, Try.ntmps18
        go_wp2
        go_ret
        exact ⟨by simp [h], rfl⟩
    · go_enter Try.func18, Try.ntmps18
      go_wp2
      go_ret
      exact ⟨by simp [h], rfl⟩
theorem zz18_yes (a0 a1 : Option Addr) (n0 c0 n1 c1 : Nat) (s : Int) (h : n0 + n1 ≤ 1048576) (w : World) :
    Calls Try.prog 18 #[.slice a0 n0 c0, .slice a1 n1 c1, .int .i64 s] w fun e w' => e = .returned (.bool true) ∧ w' = w := by
  refine (zz18 a0 a1 n0 c0 n1 c1 s (by unfold maxLen; omega) (by unfold maxLen; omega) w).mono ?_
  rintro e w' ⟨rfl, rfl⟩
  exact ⟨by rw [decide_eq_true h], rfl⟩

theorem lawB_early (a0 a1 : Option Addr) (n0 c0 n1 c1 : Nat) (s : Int) (h0 : n0 ≤ maxLen) (h1 : n1 ≤ maxLen)
    (h : 1048576 < n0 + n1 ∨ 524288 < n0 ∨ 524288 < n1 ∨ s < 0 ∨ 2097152 < s) (w : World) :
    Calls Try.prog 7 #[.slice a0 n0 c0, .slice a1 n1 c1, .int .i64 s] w (Good w) := by
  by_cases g : n0 + n1 ≤ 1048576
  case neg =>
    have hz : decide (n0 + n1 ≤ 1048576) = false := decide_eq_false g
    clear h
    go_enter Try.func7, Try.ntmps7
    go_wp2_with (go_at_call 18; refine (zz18 _ _ _ _ _ _ _ h0 h1 _).mono ?_; rintro e w' ⟨rfl, rfl⟩)
    go_ret
    exact ⟨rfl, Below.refl _ _⟩
  have hz : decide (n0 + n1 ≤ 1048576) = true := decide_eq_true g
  by_cases g0 : 524288 < n0
  case pos =>
    clear h
    go_enter Try.func7, Try.ntmps7
    go_wp2_with (go_at_call 18; refine (zz18 _ _ _ _ _ _ _ h0 h1 _).mono ?_; rintro e w' ⟨rfl, rfl⟩)
    go_ret
    exact ⟨rfl, Below.refl _ _⟩
  by_cases g1 : 524288 < n1
  case pos =>
    clear h
    go_enter Try.func7, Try.ntmps7
    go_wp2_with (go_at_call 18; refine (zz18 _ _ _ _ _ _ _ h0 h1 _).mono ?_; rintro e w' ⟨rfl, rfl⟩)
    go_ret
    exact ⟨rfl, Below.refl _ _⟩
  by_cases g2 : s < 0
  case pos =>
    clear h
    go_enter Try.func7, Try.ntmps7
    go_wp2_with (go_at_call 18; refine (zz18 _ _ _ _ _ _ _ h0 h1 _).mono ?_; rintro e w' ⟨rfl, rfl⟩)
    go_ret
    exact ⟨rfl, Below.refl _ _⟩
  have g3 : 2097152 < s := by omega
  clear h
  go_enter Try.func7, Try.ntmps7
  go_wp2_with (go_at_call 18; refine (zz18 _ _ _ _ _ _ _ h0 h1 _).mono ?_; rintro e w' ⟨rfl, rfl⟩)
  go_ret
  exact ⟨rfl, Below.refl _ _⟩

/-- The last two tests of the law, decided. -/
theorem tests {r rr : Int} {n : Nat} (h : r ≤ rr ∧ (r < (n : Int) - 1 → rr = r)) : ¬ rr < r ∧ ((n : Int) - 1 ≤ r ∨ (r < (n : Int) - 1 ∧ (rr != r) = false)) := by
  refine ⟨by omega, ?_⟩
  by_cases g : r < (n : Int) - 1
  · exact .inr ⟨g, by rw [h.2 g]; simp⟩
  · exact .inl (by omega)

theorem lawB_nil (a1 : Option Addr) (n1 c1 : Nat) (s : Nat) (f0 f1 : Nat → Int) (h1 : n1 ≤ 524288) (hs : s ≤ 2097152) (w : World) (S1 : Src w a1 n1 f1) :
    Calls Try.prog 7 #[.slice none 0 0, .slice a1 n1 c1, .int .i64 s] w (Good w) := by
  have hne := fun w => run_neq_slice_nil_any (P := Try.prog) w 22 5 none 0 0 0 0 Try.underlying22
  have S0 : Hid (Src w none 0 f0) := fun h => absurd h (Nat.lt_irrefl 0)
  have HS1 : Hid (Src w a1 n1 f1) := S1
  clear S1
  go_enter Try.func7, Try.ntmps7
  go_wp2_with (go_at_call 18; refine (zz18_yes _ _ _ _ _ _ _ (by omega) _).mono ?_; rintro e w' ⟨rfl, hw'⟩; have hw2 := hw'.symm; clear hw'; subst hw2)
  refine (join_any none 0 0 a1 n1 c1 f0 f1 (by omega) (by omega) _ S0.out HS1.out).mono ?_
  rintro e w3 ⟨rfl, hc3, hsz3, hb3⟩
  have HC3 : Hid (∀ i, i < n1 → w3.cell? ⟨w.heap.size, 0 + i, none⟩ = some (.int .u8 (joinF 0 f0 f1 i))) := fun i hi => hc3 i (by omega)
  clear hc3
  go_wp2_with fail
  refine (qm_none none 0 s f0 (by omega) _).mono ?_
  rintro e w4 ⟨⟨want, rfl, hw⟩, hw4⟩
  have hw4' := hw4.symm; clear hw4; subst hw4'
  have HW : Hid (IsAns f0 0 s want) := hw
  clear hw
  go_wp2_with fail
  refine (cq_none none 0 s f0 (by omega) _).mono ?_
  rintro e w4 ⟨⟨r, rfl, hr⟩, hw4⟩
  have hw4' := hw4.symm; clear hw4; subst hw4'
  have hr1 := (ans_rng hr).1
  have hr2 := (ans_rng hr).2
  have hb : (r != want) = false := by rw [ans_one hr HW.out]; simp
  have HR : Hid (IsAns f0 0 s r) := hr
  clear hr HW
  go_wp2_with fail
  refine (cq_some _ 0 n1 n1 s (joinF 0 f0 f1) (by omega) (by omega) _ HC3.out).mono ?_
  rintro e w4 ⟨⟨rr, rfl, hrr⟩, hw4⟩
  have hw4' := hw4.symm; clear hw4; subst hw4'
  have hg := ans_grow (m := n1) (joinF_keep 0 f0 f1) HR.out (by simpa using hrr)
  obtain ⟨t1, t2⟩ := tests hg
  clear hg hrr HR
  rcases t2 with t2 | ⟨t2, t3⟩
  · go_wp2
    go_ret
    exact ⟨rfl, hb3⟩
  · simp at t2
    omega

theorem lawB_some (ad : Addr) (n0 c0 : Nat) (a1 : Option Addr) (n1 c1 : Nat) (s : Nat) (f0 f1 : Nat → Int) (h0 : n0 ≤ 524288) (h1 : n1 ≤ 524288) (hs : s ≤ 2097152) (w : World) (S0 : Src w (some ad) n0 f0) (S1 : Src w a1 n1 f1) :
    Calls Try.prog 7 #[.slice (some ad) n0 c0, .slice a1 n1 c1, .int .i64 s] w (Good w) := by
  have hne := fun w => run_neq_slice_nil_any (P := Try.prog) w 22 5 (some ad) n0 c0 0 0 Try.underlying22
  have hmk := fun w => run_make_row' (P := Try.prog) 22 5 (.int .u8 0) 1 Try.underlying22 info5 rfl .i64 .i64 n0 (by omega) (by omega) w
  obtain ⟨Z, hZ, hZl⟩ : ∃ Z : List Value, madeCells #[.int .u8 0] n0 = Z.toArray ∧ Z.length = n0 := ⟨(madeCells #[.int .u8 0] n0).toList, by simp, by simp [size_madeCells]⟩
  rw [hZ] at hmk
  have HZ : Hid (Z.length = n0) := hZl
  clear hZ hZl
  have HS0 : Hid (Src (w.alloc (.cells Z.toArray 5)) (some ad) n0 f0) := S0.carry ((Below.refl _ _).alloc (Nat.le_refl _) _)
  have HS1 : Hid (Src w a1 n1 f1) := S1
  clear S0 S1
  go_enter Try.func7, Try.ntmps7
  go_wp2_with (first | (go_at_call 18; refine (zz18_yes _ _ _ _ _ _ _ (by omega) _).mono ?_; rintro e w' ⟨rfl, hw'⟩; have hw2 := hw'.symm; clear hw'; subst hw2) | (refine wpList_copy_splice rfl (.tmp 34) (.tmp 35) 22 22 rfl 5 Try.underlying22 size5 _ _ _ _ _ _ rfl rfl _ 0 Z 5 (new_block _ _) (cellsOf f0 n0) ?hn (HS0.out.pos (fun _ => rfl)) ?hfit (cellsOf_one _ _) _ _ ((Below.refl _ _).alloc (Nat.le_refl _) _) (Nat.le_refl _) ?_))
  case hn => rw [cellsOf_len]; show n0 = min n0 n0; omega
  case hfit => rw [cellsOf_len, HZ.out]; omega
  intro w2 HG2 hB2
  have hlt2 : w.heap.size < w2.heap.size := (Array.getElem?_eq_some_iff.1 HG2.out).1
  have HD2 : Hid (∀ i, i < n0 → w2.cell? ⟨w.heap.size, 0 + i, none⟩ = some (.int .u8 (f0 i))) := copied HZ.out HG2.out
  have HS2 : Hid (Src w2 a1 n1 f1) := HS1.out.carry hB2
  clear HG2 HS0 HS1 hmk HZ
  go_wp2_with fail
  refine (join_any (some ⟨w.heap.size, 0, none⟩) n0 n0 a1 n1 c1 f0 f1 (by omega) (by omega) _ (src_new HD2.out) HS2.out).mono ?_
  rintro e w3 ⟨rfl, hc3, hsz3, hb3⟩
  have HD3 : Hid (∀ i, i < n0 → w3.cell? ⟨w.heap.size, 0 + i, none⟩ = some (.int .u8 (f0 i))) := fun i hi => (hb3.cell (p := ⟨w.heap.size, 0 + i, none⟩) hlt2).trans (HD2.out i hi)
  have HC3 : Hid (∀ i, i < n0 + n1 → w3.cell? ⟨w2.heap.size, 0 + i, none⟩ = some (.int .u8 (joinF n0 f0 f1 i))) := hc3
  clear hc3 HD2 HS2
  go_wp2_with fail
  refine (qm_some _ 0 n0 n0 s f0 (by omega) (by omega) _ HD3.out).mono ?_
  rintro e w4 ⟨⟨want, rfl, hw⟩, hw4⟩
  have hw4' := hw4.symm; clear hw4; subst hw4'
  have HW : Hid (IsAns f0 n0 s want) := hw
  clear hw
  go_wp2_with fail
  refine (cq_some _ 0 n0 n0 s f0 (by omega) (by omega) _ HD3.out).mono ?_
  rintro e w4 ⟨⟨r, rfl, hr⟩, hw4⟩
  have hw4' := hw4.symm; clear hw4; subst hw4'
  have hr1 := (ans_rng hr).1
  have hr2 := (ans_rng hr).2
  have hb : (r != want) = false := by rw [ans_one hr HW.out]; simp
  have HR : Hid (IsAns f0 n0 s r) := hr
  clear hr HW
  go_wp2_with fail
  refine (cq_some _ 0 (n0 + n1) (n0 + n1) s (joinF n0 f0 f1) (by omega) (by omega) _ HC3.out).mono ?_
  rintro e w4 ⟨⟨rr, rfl, hrr⟩, hw4⟩
  have hw4' := hw4.symm; clear hw4; subst hw4'
  have hg := ans_grow (m := n1) (joinF_keep n0 f0 f1) HR.out hrr
  obtain ⟨t1, t2⟩ := tests hg
  clear hg hrr HR
  rcases t2 with t2 | ⟨t2, t3⟩
  · go_wp2
    go_ret
    exact ⟨rfl, hB2.trans (hb3.mono (Nat.le_of_lt hlt2))⟩
  · go_wp2
    go_ret
    exact ⟨rfl, hB2.trans (hb3.mono (Nat.le_of_lt hlt2))⟩

theorem lawB (a0 a1 : Option Addr) (n0 c0 n1 c1 : Nat) (s : Int) (f0 f1 : Nat → Int) (h0 : n0 ≤ maxLen) (h1 : n1 ≤ maxLen) (w : World) (S0 : Src w a0 n0 f0) (S1 : Src w a1 n1 f1) (hnil : a0 = none → n0 = 0 ∧ c0 = 0) :
    Calls Try.prog 7 #[.slice a0 n0 c0, .slice a1 n1 c1, .int .i64 s] w (Good w) := by
  by_cases h : 1048576 < n0 + n1 ∨ 524288 < n0 ∨ 524288 < n1 ∨ s < 0 ∨ 2097152 < s
  · exact lawB_early a0 a1 n0 c0 n1 c1 s h0 h1 h w
  · obtain ⟨k, rfl⟩ := Int.eq_ofNat_of_zero_le (show 0 ≤ s by omega)
    cases a0 with
    | none =>
      obtain ⟨rfl, rfl⟩ := hnil rfl
      exact lawB_nil a1 n1 c1 k f0 f1 (by omega) (by omega) w S1
    | some ad => exact lawB_some ad n0 c0 a1 n1 c1 k f0 f1 (by omega) (by omega) (by omega) w S0 S1
end Go.Proofs.Qxb6618000a.Walks
