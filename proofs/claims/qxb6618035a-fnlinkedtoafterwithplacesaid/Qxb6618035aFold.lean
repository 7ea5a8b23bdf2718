/- Walks over seat b6618035a: the law FnWithPlaceFoldKeepsFirstOccurrences. -/
import Derived.Test.Qxb6618035aPlaces
namespace Go.Proofs.Qxb6618035a.Walks
open Go.RowKit
open Go.Proofs.Qxb6618035a.Plain

/-- The law answered true, and nothing that was there has turned. -/
def Good (w : World) (e : Ending) (w' : World) : Prop := e = .returned (.bool true) ∧ Below w.heap.size w w'

theorem zz6 (a0 a1 : Option Addr) (n0 c0 n1 c1 : Nat) (h0 : n0 ≤ maxLen) (h1 : n1 ≤ maxLen) (w : World) :
    Calls Try.prog 6 #[.slice a0 n0 c0, .slice a1 n1 c1] w fun e w' => e = .returned (.bool (decide (n0 + n1 ≤ 1048576))) ∧ w' = w := by
  unfold maxLen at h0 h1
  by_cases h : n0 + n1 ≤ 1048576
  · have g0 : n0 ≤ 1048576 := by omega
    have g1 : n1 ≤ 1048576 := by omega
    go_enter Try.func6, Try.ntmps6
    go_wp2
    go_ret
    exact ⟨by simp [h], rfl⟩
  · by_cases g0 : n0 ≤ 1048576
    · by_cases g1 : n1 ≤ 1048576
      · go_enter Try.func6, Try.ntmps6
        go_wp2
        go_ret
        exact ⟨by simp [h], rfl⟩
      · go_enter Try.func6, Try.ntmps6
        go_wp2
        go_ret
        exact ⟨by simp [h], rfl⟩
    · go_enter Try.func6, Try.ntmps6
      go_wp2
      go_ret
      exact ⟨by simp [h], rfl⟩
theorem zz6_yes (a0 a1 : Option Addr) (n0 c0 n1 c1 : Nat) (h : n0 + n1 ≤ 1048576) (w : World) :
    Calls Try.prog 6 #[.slice a0 n0 c0, .slice a1 n1 c1] w fun e w' => e = .returned (.bool true) ∧ w = w' := by
  refine (zz6 a0 a1 n0 c0 n1 c1 (by unfold maxLen; omega) (by unfold maxLen; omega) w).mono ?_
  rintro e w' ⟨rfl, rfl⟩
  exact ⟨by rw [decide_eq_true h], rfl⟩

theorem fold_early (a0 a1 : Option Addr) (n0 c0 n1 c1 : Nat) (h0 : n0 ≤ maxLen) (h1 : n1 ≤ maxLen) (h : 4096 < n0 ∨ 4096 < n1) (w : World) :
    Calls Try.prog 3 #[.slice a0 n0 c0, .slice a1 n1 c1] w (Good w) := by
  by_cases g : n0 + n1 ≤ 1048576
  case neg =>
    have hz : decide (n0 + n1 ≤ 1048576) = false := decide_eq_false g
    clear h
    go_enter Try.func3, Try.ntmps3
    go_wp2_with (go_at_call 6; refine (zz6 _ _ _ _ _ _ h0 h1 _).mono ?_; rintro e w' ⟨rfl, rfl⟩)
    go_ret
    exact ⟨rfl, Below.refl _ _⟩
  by_cases g0 : 4096 < n0
  case pos =>
    clear h
    go_enter Try.func3, Try.ntmps3
    go_wp2_with (go_at_call 6; refine (zz6_yes _ _ _ _ _ _ g _).mono ?_; rintro e w' ⟨rfl, rfl⟩)
    go_ret
    exact ⟨rfl, Below.refl _ _⟩
  have g1 : 4096 < n1 := by omega
  clear h
  go_enter Try.func3, Try.ntmps3
  go_wp2_with (go_at_call 6; refine (zz6_yes _ _ _ _ _ _ g _).mono ?_; rintro e w' ⟨rfl, rfl⟩)
  go_ret
  exact ⟨rfl, Below.refl _ _⟩

theorem Row.old {w w' : World} {B : Nat} {a : Option Addr} {n : Nat} {f : Nat → Int} (h : Row w a n f) (hB : B = w.heap.size) (hb : Below B w w') : Row w' a n f := by
  subst hB; exact h.carry hb

/-- One round of the first loop, where the element is new. -/
theorem acc_grow {w wr w1 : World} {a : Option Addr} {n c : Nat} {l : List Int} (hown : Own wr w.heap.size a n c l) (hbel : Below w.heap.size w wr) (hg : wr.grownBy w1 (Value.slice a n c).ownBlock) : Below w.heap.size w w1 :=
  hbel.grown hg hbel.size (fun k hk => (hown.lt k hk).1)

theorem none_in {f g : Nat → Int} {v : Int} {n m : Nat} (h : hasB f v n = false) (h' : hasB g v m = false) : ¬ (v ∈ lst f n ∨ v ∈ lst g m) := by
  rintro (x | x)
  · exact (hasB_no f v n).1 h x
  · exact (hasB_no g v m).1 h' x
/-- A value that owns the list l. -/
def Own4 (w : World) (B : Nat) (v : Value) (l : List Int) : Prop := w.ownsRow B 3 1 v l.length (l.map (Value.int .i64))
theorem own4_of {w : World} {B : Nat} {v : Value} {l : List Int} {p : Int} (h : w.ownsRow B 3 1 v (l.length + 1) (l.map (Value.int .i64) ++ [.int .i64 p])) : Own4 w B v (l ++ [p]) := by
  unfold Own4
  rw [List.length_append, List.map_append]
  exact h

set_option maxHeartbeats 1000000 in
theorem fold_main (a0 : Option Addr) (n0 c0 : Nat) (b1 off1 n1 c1 : Nat) (f0 f1 : Nat → Int) (h0 : n0 ≤ 4096) (h1 : n1 ≤ 4096) (hnil : a0 = none → n0 = 0 ∧ c0 = 0) (w : World) (R0 : Row w a0 n0 f0) (hpos : 0 < n1)
    (hc1 : ∀ i, i < n1 → w.cell? ⟨b1, off1 + i, none⟩ = some (.int .i64 (f1 i))) :
    Calls Try.prog 3 #[.slice a0 n0 c0, .slice (some ⟨b1, off1, none⟩) n1 c1] w (Good w) := by
  have HC1 : Hid (∀ i, i < n1 → w.cell? ⟨b1, off1 + i, none⟩ = some (.int .i64 (f1 i))) := hc1
  have hb1 : b1 < w.heap.size := cell_lt (hc1 0 hpos)
  have HR0 : Hid (Row w a0 n0 f0) := R0
  have HNIL : Hid (a0 = none → n0 = 0 ∧ c0 = 0) := hnil
  clear hc1 R0 hnil
  go_enter Try.func3, Try.ntmps3
  go_wp2_with (go_at_call 6; refine (zz6_yes _ _ _ _ _ _ (by omega) _).mono ?_; rintro e w' ⟨rfl, rfl⟩)
  refine (clone_any a0 n0 c0 f0 (by omega) HNIL.out _ HR0.out).mono ?_
  rintro e w1 ⟨aa, ca, rfl, ho1, hbel1⟩
  have HO1 : Hid (Own w1 w.heap.size aa n0 ca (lst f0 n0)) := ho1
  have HB1 : Hid (Below w.heap.size w w1) := hbel1
  clear ho1 hbel1
  go_wp2_with fail
  go_loopw [5, 6] (fun x y wr => ∃ i : Nat, i ≤ n1 ∧ y = .int .i64 i ∧ wr.ownsRow w.heap.size 3 1 x (accTo (lst f0 n0) f1 i).length ((accTo (lst f0 n0) f1 i).map (Value.int .i64)) ∧ Below w.heap.size w wr) (fun _ y _ => n1 - (intOf y).toNat)
  case atStart => exact ⟨0, Nat.zero_le _, rfl, by show World.ownsRow _ _ _ _ _ _ _; rw [show accTo (lst f0 n0) f1 0 = lst f0 n0 from rfl, lst_len]; exact HO1.out, HB1.out⟩
  case round =>
    obtain ⟨i, hi, rfl, hown, hbel⟩ := hrel
    have hal := acc_len (lst f0 n0) f1 i
    rw [lst_len] at hal
    obtain ⟨ax, cx, rfl, hox⟩ := own_shape hown
    clear hown
    by_cases hlt : i < n1
    · have hcell : wr.cell? ⟨b1, off1 + i, none⟩ = some (.int .i64 (f1 i)) := (hbel.cell (p := ⟨b1, off1 + i, none⟩) hb1).trans (HC1.out i hlt)
      have HX : Hid (Own wr w.heap.size ax (accTo (lst f0 n0) f1 i).length cx (accTo (lst f0 n0) f1 i)) := hox
      have HB : Hid (Below w.heap.size w wr) := hbel
      have hsz : w.heap.size ≤ wr.heap.size := hbel.size
      clear hox hbel
      generalize hL : accTo (lst f0 n0) f1 i = L at *
      have HL : Hid (accTo (lst f0 n0) f1 i = L) := hL
      clear hL
      by_cases hm : f1 i ∈ L
      · have HM : Hid (f1 i ∈ L) := hm
        clear hm
        go_wp2_with fail
        refine (zzwp_has ax L.length cx (fn L) (f1 i) (by omega) _ HX.out.row (by rw [lst_fn]; exact HM.out)).mono ?_
        rintro e w2 ⟨rfl, rfl⟩
        go_wp2
        go_roundw
        case rel => exact ⟨i + 1, by omega, by go_num, by show World.ownsRow _ _ _ _ _ _ _; rw [acc_in (by rw [HL.out]; exact HM.out), HL.out]; exact HX.out, HB.out⟩
        case measure => simp [intOf]; omega
      · have HM : Hid (¬ f1 i ∈ L) := hm
        clear hm
        go_wp2_with fail
        refine (zzwp_new w.heap.size ax L.length cx L (f1 i) (by omega) _ hsz HX.out HM.out).mono ?_
        rintro e w2 ⟨a2, c2, rfl, ho2, hg2⟩
        have HO2 : Hid (Own w2 w.heap.size a2 (L.length + 1) c2 (L ++ [f1 i])) := ho2
        have HB2 : Hid (Below w.heap.size w w2) := acc_grow HX.out HB.out hg2
        clear ho2 hg2
        go_wp2
        go_roundw
        case rel => exact ⟨i + 1, by omega, by go_num, by show World.ownsRow _ _ _ _ _ _ _; rw [acc_out (by rw [HL.out]; exact HM.out), HL.out, List.length_append]; exact HO2.out, HB2.out⟩
        case measure => simp [intOf]; omega
    · obtain rfl : i = n1 := by omega
      obtain ⟨wa, hwa⟩ : ∃ wa, wa = wr := ⟨wr, rfl⟩
      subst hwa
      have HX : Hid (Own wa w.heap.size ax (accTo (lst f0 n0) f1 i).length cx (accTo (lst f0 n0) f1 i)) := hox
      have HB : Hid (Below w.heap.size w wa) := hbel
      have hsz : w.heap.size ≤ wa.heap.size := hbel.size
      have HR1 : Hid (Row wa a0 n0 f0) := HR0.out.carry hbel
      have HCR : Hid (∀ j, j < i → wa.cell? ⟨b1, off1 + j, none⟩ = some (.int .i64 (f1 j))) := fun j hj => (hbel.cell (p := ⟨b1, off1 + j, none⟩) hb1).trans (HC1.out j hj)
      have hb2 : b1 < wa.heap.size := by omega
      clear hox hbel HO1 HB1 HR0 HC1
      generalize hL : accTo (lst f0 n0) f1 i = L at *
      have HL : Hid (accTo (lst f0 n0) f1 i = L) := hL
      clear hL
      go_wp2_with fail
      refine (clone_any a0 n0 c0 f0 (by omega) HNIL.out _ HR1.out).mono ?_
      rintro e w2 ⟨aw, cw, rfl, ho2, hbel2⟩
      have HO2 : Hid (Own w2 wa.heap.size aw n0 cw (lst f0 n0)) := ho2
      have HB2 : Hid (Below wa.heap.size wa w2) := hbel2
      clear ho2 hbel2
      go_wp2_with fail
      obtain ⟨i0, hi0, hz0, hz1, hz2⟩ := info_parts info3
      go_loopw [7, 8] (fun x y wv => ∃ j : Nat, j ≤ i ∧ y = .int .i64 j ∧ wv.ownsRow wa.heap.size 3 1 x (wantTo (lst f0 n0) f1 j).length ((wantTo (lst f0 n0) f1 j).map (Value.int .i64)) ∧ Below wa.heap.size wa wv) (fun _ y _ => i - (intOf y).toNat)
      case atStart => exact ⟨0, Nat.zero_le _, rfl, by show World.ownsRow _ _ _ _ _ _ _; rw [show wantTo (lst f0 n0) f1 0 = lst f0 n0 from rfl, lst_len]; exact HO2.out, HB2.out⟩
      case round =>
        obtain ⟨j, hj, rfl, hown, hbel⟩ := hrel
        have hwl := want_len (lst f0 n0) f1 j
        rw [lst_len] at hwl
        obtain ⟨ay, cy, rfl, hoy⟩ := own_shape hown
        clear hown
        have HY : Hid (Own wr wa.heap.size ay (wantTo (lst f0 n0) f1 j).length cy (wantTo (lst f0 n0) f1 j)) := hoy
        have HBY : Hid (Below wa.heap.size wa wr) := hbel
        have hsy : wa.heap.size ≤ wr.heap.size := hbel.size
        have HR2 : Hid (Row wr a0 n0 f0) := HR1.out.carry hbel
        have HC2 : Hid (∀ j, j < i → wr.cell? ⟨b1, off1 + j, none⟩ = some (.int .i64 (f1 j))) := fun j hj => (hbel.cell (p := ⟨b1, off1 + j, none⟩) hb2).trans (HCR.out j hj)
        have HRX : Hid (Row wr (some ⟨b1, off1, none⟩) i f1) := fun _ => ⟨b1, off1, rfl, HC2.out⟩
        clear hoy hbel
        generalize hM : wantTo (lst f0 n0) f1 j = M at *
        have HM : Hid (wantTo (lst f0 n0) f1 j = M) := hM
        clear hM
        by_cases hlt : j < i
        · have hcell := HC2.out j hlt
          cases hh0 : hasB f0 (f1 j) n0 with
          | true =>
            go_wp2_with fail
            refine (has_any a0 n0 c0 n0 f0 (f1 j) (by omega) (Nat.le_refl _) _ HR2.out).mono ?_
            rintro e w3 ⟨rfl, rfl⟩
            go_wp2
            go_roundw
            case rel => exact ⟨j + 1, by omega, by go_num, by show World.ownsRow _ _ _ _ _ _ _; rw [want_in (.inl ((hasB_iff _ _ _).1 hh0)), HM.out]; exact HY.out, HBY.out⟩
            case measure => simp [intOf]; omega
          | false =>
            cases hh1 : hasB f1 (f1 j) j with
            | true =>
              go_wp2_with fail
              refine (has_any a0 n0 c0 n0 f0 (f1 j) (by omega) (Nat.le_refl _) _ HR2.out).mono ?_
              rintro e w3 ⟨rfl, hw3⟩
              have hw3' := hw3.symm; clear hw3; subst hw3'
              go_wp2_with fail
              refine (has_any _ i c1 j f1 (f1 j) (by omega) hj _ HRX.out).mono ?_
              rintro e w3 ⟨rfl, hw3⟩
              have hw3' := hw3.symm; clear hw3; subst hw3'
              go_wp2
              go_roundw
              case rel => exact ⟨j + 1, by omega, by go_num, by show World.ownsRow _ _ _ _ _ _ _; rw [want_in (.inr ((hasB_iff _ _ _).1 hh1)), HM.out]; exact HY.out, HBY.out⟩
              case measure => simp [intOf]; omega
            | false =>
              go_wp2_with fail
              refine (has_any a0 n0 c0 n0 f0 (f1 j) (by omega) (Nat.le_refl _) _ HR2.out).mono ?_
              rintro e w3 ⟨rfl, hw3⟩
              have hw3' := hw3.symm; clear hw3; subst hw3'
              go_wp2_with fail
              refine (has_any _ i c1 j f1 (f1 j) (by omega) hj _ HRX.out).mono ?_
              rintro e w3 ⟨rfl, hw3⟩
              have hw3' := hw3.symm; clear hw3; subst hw3'
              go_wp2_with (at_builtin; refine wpList_append_own _ rfl _ _ 22 rfl wa.heap.size 3 i0 (.int .i64 0) 1 8 Try.underlying22 hi0 hz0 hz1 hz2 rfl (by decide) _ _ _ rfl (World.ownsRow.alloc HY.out _) ⟨wr.heap.size, 0, none⟩ 1 1 [.int .i64 (f1 j)] rfl rfl (cell_one_new _ _ _) (one_int (f1 j)) ?c3 ?c4 ?c5 ?_)
              case c3 => unfold maxLen; omega
              case c4 => omega
              case c5 => simp; omega
              intro v' w4 hown' hgrow _
              have HO4 : Hid (Own4 w4 wa.heap.size v' (M ++ [f1 j])) := own4_of hown'
              have HB4 : Hid (Below wa.heap.size wa w4) := acc_grow HY.out HBY.out (grown_trans (World.grownBy_alloc wr _ _) hgrow)
              clear hown' hgrow
              go_wp2
              go_roundw
              case rel => exact ⟨j + 1, by omega, by go_num, by show World.ownsRow _ _ _ _ _ _ _; rw [want_out (none_in hh0 hh1), HM.out]; exact HO4.out, HB4.out⟩
              case measure => simp [intOf]; omega
        · obtain rfl : j = i := by omega
          have hML : M = L := by rw [← HM.out, ← HL.out, acc_want]
          subst hML
          have HXR : Hid (Row wr ax M.length (fn M)) := (HX.out.kept HBY.out).row
          have HYR : Hid (Row wr ay M.length (fn M)) := HY.out.row
          have HBW : Hid (Below w.heap.size w wr) := HB.out.trans (HBY.out.mono hsz)
          have HIN : Hid (∀ k, k < j → f1 k ∈ M) := fun k hk => by rw [← HL.out]; exact acc_all _ _ _ _ hk
          clear HX HY HB HBY HR1 HR2 HM HL HCR HO2 HB2
          obtain ⟨wb, hwb⟩ : ∃ wb, wb = wr := ⟨wr, rfl⟩
          subst hwb
          go_wp2_with fail
          refine (same_yes ax ay M.length cx cy (fn M) (fn M) (by omega) _ HXR.out HYR.out (fun _ _ => rfl)).mono ?_
          rintro e w5 ⟨rfl, q, rfl⟩
          have HXR5 : Hid (Row (wb.drewN q) ax M.length (fn M)) := HXR.out
          have HYR5 : Hid (Row (wb.drewN q) ay M.length (fn M)) := HYR.out
          have HB5 : Hid (Below w.heap.size w (wb.drewN q)) := below_draws HBW.out q
          have HC5 : Hid (∀ k, k < j → (wb.drewN q).cell? ⟨b1, off1 + k, none⟩ = some (.int .i64 (f1 k))) := HC2.out
          clear HXR HYR HBW HC2 HRX
          generalize wb.drewN q = wc at *
          go_wp2_with fail
          go_loop [9, 10] (fun x y => ∃ k : Nat, k ≤ j ∧ y = .int .i64 k ∧ x = .slice ax M.length cx) (fun _ y => j - (intOf y).toNat)
          case atStart => exact ⟨0, Nat.zero_le _, rfl, rfl⟩
          case round =>
            obtain ⟨k, hk, rfl, rfl⟩ := hrel
            by_cases hlt : k < j
            · have hcell := HC5.out k hlt
              go_wp2_with fail
              refine (zzwp_has ax M.length cx (fn M) (f1 k) (by omega) _ HXR5.out (by rw [lst_fn]; exact HIN.out k hlt)).mono ?_
              rintro e w6 ⟨rfl, hw6⟩
              have hw6' := hw6.symm; clear hw6; subst hw6'
              go_wp2
              go_round
              case rel => exact ⟨k + 1, by omega, by go_num, rfl⟩
              case measure => simp [intOf]; omega
            · go_wp2_with fail
              refine (same_yes ax ay M.length cx cy (fn M) (fn M) (by omega) _ HXR5.out HYR5.out (fun _ _ => rfl)).mono ?_
              rintro e w6 ⟨rfl, q2, rfl⟩
              go_wp2
              go_ret
              exact ⟨rfl, below_draws HB5.out q2⟩

/-- The second list is empty. -/
theorem fold_none (a0 a1 : Option Addr) (n0 c0 c1 : Nat) (f0 : Nat → Int) (h0 : n0 ≤ 4096) (hnil : a0 = none → n0 = 0 ∧ c0 = 0) (w : World) (R0 : Row w a0 n0 f0) :
    Calls Try.prog 3 #[.slice a0 n0 c0, .slice a1 0 c1] w (Good w) := by
  have HR0 : Hid (Row w a0 n0 f0) := R0
  have HNIL : Hid (a0 = none → n0 = 0 ∧ c0 = 0) := hnil
  clear R0 hnil
  go_enter Try.func3, Try.ntmps3
  go_wp2_with (go_at_call 6; refine (zz6_yes _ _ _ _ _ _ (by omega) _).mono ?_; rintro e w' ⟨rfl, rfl⟩)
  refine (clone_any a0 n0 c0 f0 (by omega) HNIL.out _ HR0.out).mono ?_
  rintro e w1 ⟨aa, ca, rfl, ho1, hbel1⟩
  have HX : Hid (Own w1 w.heap.size aa n0 ca (lst f0 n0)) := ho1
  have HB1 : Hid (Below w.heap.size w w1) := hbel1
  have HR1 : Hid (Row w1 a0 n0 f0) := HR0.out.carry hbel1
  have hsz : w.heap.size ≤ w1.heap.size := hbel1.size
  clear ho1 hbel1
  go_wp2_with fail
  refine wp_loop_rounds 1 ?_
  rw [rounds_succ]
  go_wp2_with fail
  refine (clone_any a0 n0 c0 f0 (by omega) HNIL.out _ HR1.out).mono ?_
  rintro e w2 ⟨aw, cw, rfl, ho2, hbel2⟩
  have hln : (lst f0 n0).length = n0 := lst_len f0 n0
  have HXR : Hid (Row w2 aa n0 (fn (lst f0 n0))) := (HX.out.kept hbel2).row
  have HYR : Hid (Row w2 aw n0 (fn (lst f0 n0))) := ho2.row
  have HB2 : Hid (Below w.heap.size w w2) := HB1.out.trans (hbel2.mono hsz)
  clear ho2 hbel2 hln HX HB1 HR1
  go_wp2_with fail
  refine wp_loop_rounds 1 ?_
  rw [rounds_succ]
  go_wp2_with fail
  refine (same_yes aa aw n0 ca cw _ _ (by omega) _ HXR.out HYR.out (fun _ _ => rfl)).mono ?_
  rintro e w5 ⟨rfl, q, rfl⟩
  have HXR5 : Hid (Row (w2.drewN q) aa n0 (fn (lst f0 n0))) := HXR.out
  have HYR5 : Hid (Row (w2.drewN q) aw n0 (fn (lst f0 n0))) := HYR.out
  have HB5 : Hid (Below w.heap.size w (w2.drewN q)) := below_draws HB2.out q
  clear HXR HYR HB2
  generalize w2.drewN q = wc at *
  go_wp2_with fail
  refine wp_loop_rounds 1 ?_
  rw [rounds_succ]
  go_wp2_with fail
  refine (same_yes aa aw n0 ca cw _ _ (by omega) _ HXR5.out HYR5.out (fun _ _ => rfl)).mono ?_
  rintro e w6 ⟨rfl, q2, rfl⟩
  go_wp2
  go_ret
  exact ⟨rfl, below_draws HB5.out q2⟩

theorem fold_any (a0 a1 : Option Addr) (n0 c0 n1 c1 : Nat) (f0 f1 : Nat → Int) (h0 : n0 ≤ maxLen) (h1 : n1 ≤ maxLen) (hnil : a0 = none → n0 = 0 ∧ c0 = 0) (w : World) (R0 : Row w a0 n0 f0) (R1 : Row w a1 n1 f1) :
    Calls Try.prog 3 #[.slice a0 n0 c0, .slice a1 n1 c1] w (Good w) := by
  by_cases h : 4096 < n0 ∨ 4096 < n1
  · exact fold_early a0 a1 n0 c0 n1 c1 h0 h1 h w
  · by_cases hz : n1 = 0
    · subst hz
      exact fold_none a0 a1 n0 c0 c1 f0 (by omega) hnil w R0
    · obtain ⟨b1, off1, rfl, hc⟩ := R1 (by omega)
      exact fold_main a0 n0 c0 b1 off1 n1 c1 f0 f1 (by omega) (by omega) hnil w R0 (by omega) hc
end Go.Proofs.Qxb6618035a.Walks
