/- Walks over seat b6618000a: the law FnClosingQuoteIsFirstUnescapedAndShifts. -/
import Derived.Test.Qxb6618000aJoin
namespace Go.Proofs.Qxb6618000a.Walks
open Go.RowKit
open Go.Proofs.Qxb6618000a.Plain

/-- The law answered true, and nothing that was there has turned. -/
def Good (w : World) (e : Ending) (w' : World) : Prop := e = .returned (.bool true) ∧ Below w.heap.size w w'

theorem lawA_early (a0 a1 : Option Addr) (n0 c0 n1 c1 : Nat) (s : Int) (h0 : n0 ≤ maxLen) (h1 : n1 ≤ maxLen)
    (h : 1048576 < n0 + n1 ∨ 524288 < n0 ∨ 524288 < n1 ∨ s < 0 ∨ 2097152 < s) (w : World) :
    Calls Try.prog 6 #[.slice a0 n0 c0, .slice a1 n1 c1, .int .i64 s] w (Good w) := by
  by_cases g : n0 + n1 ≤ 1048576
  case neg =>
    have hz : decide (n0 + n1 ≤ 1048576) = false := decide_eq_false g
    clear h
    go_enter Try.func6, Try.ntmps6
    go_wp2_with (go_at_call 15; refine (zz15 _ _ _ _ _ _ _ h0 h1 _).mono ?_; rintro e w' ⟨rfl, rfl⟩)
    go_ret
    exact ⟨rfl, Below.refl _ _⟩
  have hz : decide (n0 + n1 ≤ 1048576) = true := decide_eq_true g
  by_cases g0 : 524288 < n0
  case pos =>
    clear h
    go_enter Try.func6, Try.ntmps6
    go_wp2_with (go_at_call 15; refine (zz15 _ _ _ _ _ _ _ h0 h1 _).mono ?_; rintro e w' ⟨rfl, rfl⟩)
    go_ret
    exact ⟨rfl, Below.refl _ _⟩
  by_cases g1 : 524288 < n1
  case pos =>
    clear h
    go_enter Try.func6, Try.ntmps6
    go_wp2_with (go_at_call 15; refine (zz15 _ _ _ _ _ _ _ h0 h1 _).mono ?_; rintro e w' ⟨rfl, rfl⟩)
    go_ret
    exact ⟨rfl, Below.refl _ _⟩
  by_cases g2 : s < 0
  case pos =>
    clear h
    go_enter Try.func6, Try.ntmps6
    go_wp2_with (go_at_call 15; refine (zz15 _ _ _ _ _ _ _ h0 h1 _).mono ?_; rintro e w' ⟨rfl, rfl⟩)
    go_ret
    exact ⟨rfl, Below.refl _ _⟩
  have g3 : 2097152 < s := by omega
  clear h
  go_enter Try.func6, Try.ntmps6
  go_wp2_with (go_at_call 15; refine (zz15 _ _ _ _ _ _ _ h0 h1 _).mono ?_; rintro e w' ⟨rfl, rfl⟩)
  go_ret
  exact ⟨rfl, Below.refl _ _⟩

theorem joinF_shift (n : Nat) (f g : Nat → Int) (i : Nat) : joinF n f g (n + i) = g i := by
  unfold joinF
  rw [if_neg (by omega), show n + i - n = i by omega]
theorem joinF_keep (n : Nat) (f g : Nat → Int) (i : Nat) (h : i < n) : joinF n f g i = f i := by
  simp [joinF, h]

theorem zz15_yes (a0 a1 : Option Addr) (n0 c0 n1 c1 : Nat) (s : Int) (h : n0 + n1 ≤ 1048576) (w : World) :
    Calls Try.prog 15 #[.slice a0 n0 c0, .slice a1 n1 c1, .int .i64 s] w fun e w' => e = .returned (.bool true) ∧ w' = w := by
  refine (zz15 a0 a1 n0 c0 n1 c1 s (by unfold maxLen; omega) (by unfold maxLen; omega) w).mono ?_
  rintro e w' ⟨rfl, rfl⟩
  exact ⟨by rw [decide_eq_true h], rfl⟩

theorem cq_at (b off n c s : Nat) (si : Int) (hsi : si = (s : Int)) (f : Nat → Int) (hs : s ≤ 4194304) (hn : n ≤ 4194304) (w : World) (hc : ∀ i, i < n → w.cell? ⟨b, off + i, none⟩ = some (.int .u8 (f i))) :
    Calls Try.prog 17 #[.slice (some ⟨b, off, none⟩) n c, .int .i64 si] w (Ans f n s w) := by
  subst hsi
  exact cq_some b off n c s f hs hn w hc

theorem lawA_nil (a0 : Option Addr) (n0 c0 : Nat) (s : Nat) (f0 f1 : Nat → Int) (h0 : n0 ≤ 524288) (hs : s ≤ 2097152) (w : World) (S0 : Src w a0 n0 f0) :
    Calls Try.prog 6 #[.slice a0 n0 c0, .slice none 0 0, .int .i64 s] w (Good w) := by
  have hne := fun w => run_neq_slice_nil_any (P := Try.prog) w 22 5 none 0 0 0 0 Try.underlying22
  have S1 : Hid (Src w none 0 f1) := fun h => absurd h (Nat.lt_irrefl 0)
  have S0' : Hid (Src w a0 n0 f0) := S0
  clear S0
  go_enter Try.func6, Try.ntmps6
  go_wp2_with (go_at_call 15; refine (zz15_yes _ _ _ _ _ _ _ (by omega) _).mono ?_; rintro e w' ⟨rfl, rfl⟩)
  refine (join_any a0 n0 c0 none 0 0 f0 f1 (by omega) (by omega) _ S0'.out S1.out).mono ?_
  rintro e w1 ⟨rfl, hc1, hsz1, hb1⟩
  have HC1 : Hid _ := hc1
  clear hc1
  go_wp2_with fail
  refine (qm_none none 0 s f1 (by omega) _).mono ?_
  rintro e w2 ⟨⟨want, rfl, hw⟩, rfl⟩
  have HW : Hid (IsAns f1 0 s want) := hw
  clear hw
  go_wp2_with fail
  refine (cq_none none 0 s f1 (by omega) _).mono ?_
  rintro e w2 ⟨⟨r, rfl, hr⟩, rfl⟩
  have hr1 := (ans_rng hr).1
  have hr2 := (ans_rng hr).2
  have hb : (r == want) = true := by rw [ans_one hr HW.out]; simp
  have HR : Hid (IsAns f1 0 s r) := hr
  clear hr HW
  go_wp2_with fail
  refine (cq_at _ 0 n0 n0 (n0 + s) _ (by omega) (joinF n0 f0 f1) (by omega) (by omega) _ HC1.out).mono ?_
  rintro e w2 ⟨⟨rr, rfl, hrr⟩, rfl⟩
  have he : rr = n0 + r := ans_one hrr (ans_shift (joinF_shift n0 f0 f1) HR.out)
  have hb2 : (rr == (n0 : Int) + r) = true := by rw [he]; simp
  clear he hrr HR
  go_wp2
  go_ret
  exact ⟨rfl, hb1⟩

theorem copied {w w2 : World} {Z : List Value} {f : Nat → Int} {n : Nat} (hZ : Z.length = n) (hg : w2.heap[w.heap.size]? = some (.cells (splice Z 0 (cellsOf f n)).toArray 5 (0, 0))) :
    ∀ i, i < n → w2.cell? ⟨w.heap.size, 0 + i, none⟩ = some (.int .u8 (f i)) := by
  intro i hi
  have e : splice Z 0 (cellsOf f n) = cellsOf f n := by
    unfold splice
    rw [cellsOf_len, List.drop_eq_nil_of_le (by omega)]
    simp
  rw [e] at hg
  simp only [World.cell?, hg, Nat.zero_add]
  rw [if_neg (by simp), List.getElem?_toArray]
  simp [cellsOf, hi]
theorem src_new {w : World} {b n : Nat} {f : Nat → Int} (h : ∀ i, i < n → w.cell? ⟨b, 0 + i, none⟩ = some (.int .u8 (f i))) : Src w (some ⟨b, 0, none⟩) n f :=
  fun _ => ⟨_, rfl, fun i hi => by
    have e : (⟨b, 0, none⟩ : Addr).add i = ⟨b, 0 + i, none⟩ := by unfold Addr.add; split <;> simp_all
    rw [e]; exact h i hi⟩

theorem lawA_some (a0 : Option Addr) (n0 c0 : Nat) (ad : Addr) (n1 c1 : Nat) (s : Nat) (f0 f1 : Nat → Int) (h0 : n0 ≤ 524288) (h1 : n1 ≤ 524288) (hs : s ≤ 2097152) (w : World) (S0 : Src w a0 n0 f0) (S1 : Src w (some ad) n1 f1) :
    Calls Try.prog 6 #[.slice a0 n0 c0, .slice (some ad) n1 c1, .int .i64 s] w (Good w) := by
  have hne := fun w => run_neq_slice_nil_any (P := Try.prog) w 22 5 (some ad) n1 c1 0 0 Try.underlying22
  have hmk := fun w => run_make_row' (P := Try.prog) 22 5 (.int .u8 0) 1 Try.underlying22 info5 rfl .i64 .i64 n1 (by omega) (by omega) w
  obtain ⟨Z, hZ, hZl⟩ : ∃ Z : List Value, madeCells #[.int .u8 0] n1 = Z.toArray ∧ Z.length = n1 := ⟨(madeCells #[.int .u8 0] n1).toList, by simp, by simp [size_madeCells]⟩
  rw [hZ] at hmk
  have HZ : Hid (Z.length = n1) := hZl
  clear hZ hZl
  have HS1 : Hid (Src (w.alloc (.cells Z.toArray 5)) (some ad) n1 f1) := S1.carry ((Below.refl _ _).alloc (Nat.le_refl _) _)
  have HS0 : Hid (Src w a0 n0 f0) := S0
  clear S0 S1
  go_enter Try.func6, Try.ntmps6
  go_wp2_with (first | (go_at_call 15; refine (zz15_yes _ _ _ _ _ _ _ (by omega) _).mono ?_; rintro e w' ⟨rfl, hw'⟩; have hw2 := hw'.symm; clear hw'; subst hw2) | (refine wpList_copy_splice rfl (.tmp 34) (.tmp 35) 22 22 rfl 5 Try.underlying22 size5 _ _ _ _ _ _ rfl rfl _ 0 Z 5 (new_block _ _) (cellsOf f1 n1) ?hn (HS1.out.pos (fun _ => rfl)) ?hfit (cellsOf_one _ _) _ _ ((Below.refl _ _).alloc (Nat.le_refl _) _) (Nat.le_refl _) ?_))
  case hn => rw [cellsOf_len]; show n1 = min n1 n1; omega
  case hfit => rw [cellsOf_len, HZ.out]; omega
  intro w2 HG2 hB2
  have hlt2 : w.heap.size < w2.heap.size := (Array.getElem?_eq_some_iff.1 HG2.out).1
  have HD2 : Hid (∀ i, i < n1 → w2.cell? ⟨w.heap.size, 0 + i, none⟩ = some (.int .u8 (f1 i))) := copied HZ.out HG2.out
  have HS2 : Hid (Src w2 a0 n0 f0) := HS0.out.carry hB2
  clear HG2 HS0 HS1 hmk HZ
  go_wp2_with fail
  refine (join_any a0 n0 c0 (some ⟨w.heap.size, 0, none⟩) n1 n1 f0 f1 (by omega) (by omega) _ HS2.out (src_new HD2.out)).mono ?_
  rintro e w3 ⟨rfl, hc3, hsz3, hb3⟩
  have HD3 : Hid (∀ i, i < n1 → w3.cell? ⟨w.heap.size, 0 + i, none⟩ = some (.int .u8 (f1 i))) := fun i hi => (hb3.cell (p := ⟨w.heap.size, 0 + i, none⟩) hlt2).trans (HD2.out i hi)
  have HC3 : Hid (∀ i, i < n0 + n1 → w3.cell? ⟨w2.heap.size, 0 + i, none⟩ = some (.int .u8 (joinF n0 f0 f1 i))) := hc3
  clear hc3 HD2 HS2
  go_wp2_with fail
  refine (qm_some _ 0 n1 n1 s f1 (by omega) (by omega) _ HD3.out).mono ?_
  rintro e w4 ⟨⟨want, rfl, hw⟩, hw4⟩
  have hw4' := hw4.symm; clear hw4; subst hw4'
  have HW : Hid (IsAns f1 n1 s want) := hw
  clear hw
  go_wp2_with fail
  refine (cq_some _ 0 n1 n1 s f1 (by omega) (by omega) _ HD3.out).mono ?_
  rintro e w4 ⟨⟨r, rfl, hr⟩, hw4⟩
  have hw4' := hw4.symm; clear hw4; subst hw4'
  have hr1 := (ans_rng hr).1
  have hr2 := (ans_rng hr).2
  have hb : (r == want) = true := by rw [ans_one hr HW.out]; simp
  have HR : Hid (IsAns f1 n1 s r) := hr
  clear hr HW
  go_wp2_with fail
  refine (cq_at _ 0 (n0 + n1) (n0 + n1) (n0 + s) _ (by omega) (joinF n0 f0 f1) (by omega) (by omega) _ HC3.out).mono ?_
  rintro e w4 ⟨⟨rr, rfl, hrr⟩, hw4⟩
  have hw4' := hw4.symm; clear hw4; subst hw4'
  have he : rr = n0 + r := ans_one hrr (ans_shift (joinF_shift n0 f0 f1) HR.out)
  have hb2 : (rr == (n0 : Int) + r) = true := by rw [he]; simp
  clear he hrr HR
  go_wp2
  go_ret
  exact ⟨rfl, hB2.trans (hb3.mono (Nat.le_of_lt hlt2))⟩

theorem lawA (a0 a1 : Option Addr) (n0 c0 n1 c1 : Nat) (s : Int) (f0 f1 : Nat → Int) (h0 : n0 ≤ maxLen) (h1 : n1 ≤ maxLen) (w : World) (S0 : Src w a0 n0 f0) (S1 : Src w a1 n1 f1) (hnil : a1 = none → n1 = 0 ∧ c1 = 0) :
    Calls Try.prog 6 #[.slice a0 n0 c0, .slice a1 n1 c1, .int .i64 s] w (Good w) := by
  by_cases h : 1048576 < n0 + n1 ∨ 524288 < n0 ∨ 524288 < n1 ∨ s < 0 ∨ 2097152 < s
  · exact lawA_early a0 a1 n0 c0 n1 c1 s h0 h1 h w
  · obtain ⟨k, rfl⟩ := Int.eq_ofNat_of_zero_le (show 0 ≤ s by omega)
    cases a1 with
    | none =>
      obtain ⟨rfl, rfl⟩ := hnil rfl
      exact lawA_nil a0 n0 c0 k f0 f1 (by omega) (by omega) w S0
    | some ad => exact lawA_some a0 n0 c0 ad n1 c1 k f0 f1 (by omega) (by omega) (by omega) w S0 S1
end Go.Proofs.Qxb6618000a.Walks
