/- Walks over seat b6618035a: the law FnLinkedToAfterWithPlace. -/
import Derived.Test.Qxb6618035aTable
namespace Go.Proofs.Qxb6618035a.Walks
open Go.RowKit
open Go.Proofs.Qxb6618035a.Plain

set_option maxRecDepth 100000 in
theorem aft_early (t : Tbl) (C : Nat) (ap : Option Addr) (m cp : Nat) (k : Int) (hN : t.N ≤ maxLen) (hm : m ≤ maxLen) (h : 65536 < t.N ∨ 65536 < m) (w : World) (hT : t.In w) :
    Calls Try.prog 5 #[.slice t.A t.N C, .slice ap m cp, .int .i64 k] w (Good w) := by
  have HT : Hid (t.In w) := hT
  clear hT
  by_cases g : 65536 < t.N
  · clear h
    go_enter Try.func5, Try.ntmps5
    go_wp2_with fail
    refine (zz13 t C ap m cp k hN hm _ HT.out).mono ?_
    rintro e w1 ⟨b, rfl, hb, hw⟩
    have hw' := hw.symm; clear hw hb; subst hw'
    cases b
    all_goals
      go_wp2
      go_ret
      exact ⟨rfl, Below.refl _ _⟩
  · have g1 : 65536 < m := by omega
    clear h
    go_enter Try.func5, Try.ntmps5
    go_wp2_with fail
    refine (zz13 t C ap m cp k hN hm _ HT.out).mono ?_
    rintro e w1 ⟨b, rfl, hb, hw⟩
    have hw' := hw.symm; clear hw hb; subst hw'
    cases b
    all_goals
      go_wp2
      go_ret
      exact ⟨rfl, Below.refl _ _⟩

theorem fn_old (f : Nat → Int) (m : Nat) (p : Int) (i : Nat) (h : i < m) : fn (lst f m ++ [p]) i = f i := by
  rw [fn_left _ _ _ (by rw [lst_len]; exact h)]
  exact lst_at f m i h
theorem fn_new (f : Nat → Int) (m : Nat) (p : Int) : fn (lst f m ++ [p]) m = p := by
  have := fn_right (lst f m) [p] 0
  rw [lst_len] at this
  exact this
theorem fits_add {t : Tbl} {f : Nat → Int} {m P : Nat} (h : Fits t f m) (hP : P < t.N) : Fits t (fn (lst f m ++ [(P : Int)])) (m + 1) := by
  intro i hi
  by_cases e : i = m
  · subst e
    rw [fn_new]
    omega
  · rw [fn_old f m P i (by omega)]
    exact h i (by omega)
theorem flat_add_one {t : Tbl} {f : Nat → Int} {m P : Nat} : flat t.row (fn (lst f m ++ [(P : Int)])) (m + 1) = flat t.row f m ++ t.row P := by
  show flat t.row (fn (lst f m ++ [(P : Int)])) m ++ t.row (fn (lst f m ++ [(P : Int)]) m).toNat = _
  rw [fn_new, flat_congr t.row _ f m (fun i hi => fn_old f m P i hi)]
  simp
/-- What is owned stays owned while a row that lay there before is written. -/
theorem own_aside {w w' : World} {B : Nat} {a a' : Option Addr} {n c n' c' : Nat} {l : List Int} (h : Own w B a n c l) (hg : w.grownBy w' (Value.slice a' n' c').ownBlock) (hlt : ∀ k, (Value.slice a' n' c').ownBlock = some k → k < B) : Own w' B a n c l := by
  refine World.ownsRow.kept h hg ?_
  cases hb : (Value.slice a n c).ownBlock with
  | none => exact .inl rfl
  | some g =>
    refine .inr ?_
    intro e
    have h1 := (h.lt g hb).1
    have h2 := hlt g e.symm
    omega

set_option maxRecDepth 100000 in
set_option maxHeartbeats 4000000 in
theorem aft_main (t : Tbl) (C : Nat) (ap : Option Addr) (m cp : Nat) (f : Nat → Int) (p : Int) (hN : t.N ≤ 65536) (hm : m ≤ 65536) (hnil : ap = none → m = 0 ∧ cp = 0) (w : World) (hT : t.In w) (hR : Row w ap m f) :
    Calls Try.prog 5 #[.slice t.A t.N C, .slice ap m cp, .int .i64 p] w (Good w) := by
  have HT : Hid (t.In w) := hT
  have HR : Hid (Row w ap m f) := hR
  have HNIL : Hid (ap = none → m = 0 ∧ cp = 0) := hnil
  clear hT hR hnil
  go_enter Try.func5, Try.ntmps5
  go_wp2_with fail
  refine (zz13 t C ap m cp p (by unfold maxLen; omega) (by unfold maxLen; omega) _ HT.out).mono ?_
  rintro e w1 ⟨b, rfl, hb, hw⟩
  have hw' := hw.symm; clear hw; subst hw'
  cases b with
  | false =>
    clear hb
    go_wp2
    go_ret
    exact ⟨rfl, Below.refl _ _⟩
  | true =>
    have HS : Hid (Short t) := hb rfl
    clear hb
    go_wp2_with fail
    go_loop [7, 8] (fun x y => ∃ i : Nat, i ≤ t.N ∧ y = .int .i64 i ∧ ∃ z : Int, x = .int .i64 z ∧ 0 ≤ z ∧ z ≤ 1048576) (fun _ y => t.N - (intOf y).toNat)
    case atStart => exact ⟨0, Nat.zero_le _, rfl, _, rfl, by omega, by omega⟩
    case round =>
      obtain ⟨i, hi, rfl, z, rfl, z0, z1⟩ := hrel
      by_cases hlt : i < t.N
      · obtain ⟨b, off, hA, hc⟩ := HT.out.head (by omega)
        have hcell := hc i hlt
        have hsh := HS.out i hlt
        clear hc
        generalize t.A = A at *
        subst hA
        by_cases g2 : z + 8 * t.rn i ≤ 1048576
        · go_wp2
          go_round
          case rel => exact ⟨i + 1, by omega, by go_num, _, rfl, by omega, by omega⟩
          case measure => simp [intOf]; omega
        · go_wp2
          go_ret
          exact ⟨rfl, Below.refl _ _⟩
      · by_cases p0 : p < 0
        · go_wp2
          go_ret
          exact ⟨rfl, Below.refl _ _⟩
        by_cases p1 : (t.N : Int) ≤ p
        · go_wp2
          go_ret
          exact ⟨rfl, Below.refl _ _⟩
        obtain ⟨P, rfl⟩ := Int.eq_ofNat_of_zero_le (show 0 ≤ p by omega)
        have hP : P < t.N := by omega
        clear p0 p1
        obtain ⟨b, off, hA, hc⟩ := HT.out.head (by omega)
        have hcP := hc P hP
        have hbt : b < w.heap.size := cell_lt hcP
        have hshP := HS.out P hP
        have HCT : Hid (∀ r, r < t.N → w.cell? ⟨b, off + r, none⟩ = some (.slice (t.ra r) (t.rn r) (t.rc r))) := hc
        have HA : Hid (t.A = some ⟨b, off, none⟩) := hA
        rw [hA]
        clear hc hA
        go_wp2_with fail
        go_loop [9, 10] (fun x y => ∃ j : Nat, j ≤ m ∧ y = .int .i64 j ∧ x = .int .i64 ((t.rn P : Int) + (flat t.row f j).length) ∧ t.rn P + (flat t.row f j).length ≤ 1048576 ∧ Fits t f j) (fun _ y => m - (intOf y).toNat)
        case atStart => exact ⟨0, Nat.zero_le _, rfl, by simp [flat], by simp [flat]; exact hshP, fun i h => absurd h (Nat.not_lt_zero i)⟩
        case round =>
          obtain ⟨j, hj, rfl, rfl, hfl, hfit⟩ := hrel
          have HFT : Hid (Fits t f j) := hfit
          clear hfit
          by_cases hlt : j < m
          · obtain ⟨bp, op, hap, hcp'⟩ := HR.out (by omega)
            have hcp := hcp' j hlt
            subst hap
            clear hcp'
            by_cases q0 : f j < 0
            · go_wp2
              go_ret
              exact ⟨rfl, Below.refl _ _⟩
            by_cases q1 : (t.N : Int) ≤ f j
            · go_wp2
              go_ret
              exact ⟨rfl, Below.refl _ _⟩
            obtain ⟨q, hq⟩ := Int.eq_ofNat_of_zero_le (show 0 ≤ f j by omega)
            have hqN : (q : Int) < t.N := by omega
            have HFL : Hid (flat t.row f (j + 1) = flat t.row f j ++ t.row q) := by show _ = _; simp only [flat]; rw [hq]; simp
            have HFT' : Hid (Fits t f (j + 1)) := fun x hx => by
              by_cases e : x = j
              · subst e; omega
              · exact HFT.out x (by omega)
            rw [hq] at hcp
            have hcell := HCT.out q (by omega)
            have hsh := HS.out q (by omega)
            clear q0 q1 hq
            generalize hL : flat t.row f j = L at *
            have HL : Hid (flat t.row f j = L) := hL
            clear hL
            by_cases g2 : t.rn P + L.length + t.rn q ≤ 131072
            · go_wp2
              go_round
              case rel => exact ⟨j + 1, by omega, by go_num, by rw [HFL.out, List.length_append, Tbl.row_len]; go_num, by rw [HFL.out, List.length_append, Tbl.row_len]; omega, HFT'.out⟩
              case measure => simp [intOf]; omega
            · go_wp2
              go_ret
              exact ⟨rfl, Below.refl _ _⟩
          · have ejm : m = j := by omega
            subst ejm
            have HLK : Hid (∀ (ap' : Option Addr) (m' cp' : Nat) (f' : Nat → Int) (w' : World), m' ≤ 1048576 → (flat t.row f' m').length ≤ 1048576 → t.In w' → Row w' ap' m' f' → Fits t f' m' →
                Calls Try.prog 12 #[.slice (some ⟨b, off, none⟩) t.N C, .slice ap' m' cp'] w' (Linked (flat t.row f' m') w')) := fun ap' m' cp' f' w' h1 h2 h3 h4 h5 => by
              have := zzlk_any t C ap' m' cp' f' h1 h2 w' h3 h4 h5
              rw [HA.out] at this
              exact this
            obtain ⟨i0, hi0, hz0, hz1, hz2⟩ := info_parts info3
            go_wp2_with fail
            refine (clone_any ap m cp f (by omega) HNIL.out _ HR.out).mono ?_
            rintro e w1 ⟨ac, cc, rfl, ho1, hb1⟩
            have HO1 : Hid (Own w1 w.heap.size ac m cc (lst f m)) := ho1
            have HR1 : Hid (Row w1 ac m f) := ho1.row.congr (fun i hi => lst_at f m i hi)
            have HB1 : Hid (Below w.heap.size w w1) := hb1
            have hs1 : w.heap.size ≤ w1.heap.size := hb1.size
            have HT1 : Hid (t.In w1) := HT.out.carry hb1
            clear ho1 hb1 HR HNIL
            go_wp2_with fail
            refine (has_any ac m cc m f P (by omega) (Nat.le_refl _) _ HR1.out).mono ?_
            rintro e wz ⟨rfl, hwz⟩
            have hwz' := hwz.symm; clear hwz; subst hwz'
            go_wp2_with fail
            refine (HLK.out ac m cc f _ (by omega) (by omega) HT1.out HR1.out HFT.out).mono ?_
            rintro e w2 ⟨aB, cB, rfl, hrB, hb2⟩
            have HF2 : Hid (Row w2 aB (flat t.row f m).length (fn (flat t.row f m))) := hrB
            have HO2 : Hid (Own w2 w.heap.size ac m cc (lst f m)) := HO1.out.kept hb2
            have HB2 : Hid (Below w.heap.size w w2) := HB1.out.trans (hb2.mono hs1)
            have hs2 : w.heap.size ≤ w2.heap.size := Nat.le_trans hs1 hb2.size
            clear hrB hb2 HO1 HR1 HB1 HT1
            have hcP2 : w2.cell? ⟨b, off + P, none⟩ = some (.slice (t.ra P) (t.rn P) (t.rc P)) := (HB2.out.cell (p := ⟨b, off + P, none⟩) hbt).trans hcP
            have HRP2 : Hid (Row w2 (t.ra P) (t.rn P) (t.g P)) := (HT.out.rows P hP).carry HB2.out
            generalize hBf : flat t.row f m = Bf at *
            have HBf : Hid (flat t.row f m = Bf) := hBf
            clear hBf
            go_wp2_with (at_make; refine wpList_make_own _ rfl _ _ 22 rfl w2.heap.size 3 i0 (.int .i64 0) 1 Try.underlying22 hi0 hz0 hz1 .i64 .i64 _ (Bf.length + t.rn P) rfl rfl ?hC ?hb ?hl ?hs ?_)
            case hC => omega
            case hb => rw [hz2]; omega
            case hl => unfold maxLen; omega
            case hs => exact Nat.le_refl _
            intro w3 hown3 hg3
            have HO3 : Hid (w3.ownsRow w2.heap.size 3 1 (.slice (some ⟨w2.heap.size, 0, none⟩) 0 (Bf.length + t.rn P)) 0 []) := hown3
            have HB3 : Hid (Below w2.heap.size w2 w3) := (Below.refl _ _).grown hg3 (Nat.le_refl _) (fun k h => by cases h)
            clear hown3 hg3
            go_wp2_with fail
            go_loopw [15, 16] (fun x y wr => ∃ i : Nat, i ≤ Bf.length ∧ y = .int .i64 i ∧ Own4 wr w2.heap.size x (lst (fn Bf) i) ∧ Below w2.heap.size w2 wr) (fun _ y _ => Bf.length - (intOf y).toNat)
            case atStart => exact ⟨0, Nat.zero_le _, rfl, HO3.out, HB3.out⟩
            case round =>
              obtain ⟨i3, hi3, rfl, hown, hbel⟩ := hrel
              have hml : (lst (fn Bf) i3).length = i3 := lst_len _ _
              obtain ⟨ax, cx, rfl, hox⟩ := own_shape hown
              clear hown
              have hsr : w2.heap.size ≤ wr.heap.size := hbel.size
              by_cases hlt3 : i3 < Bf.length
              · obtain ⟨bB, oB, hab, hcB⟩ := HF2.out (by omega)
                have hcell : wr.cell? ⟨bB, oB + i3, none⟩ = some (.int .i64 (fn Bf i3)) := (hbel.cell (p := ⟨bB, oB + i3, none⟩) (cell_lt (hcB i3 hlt3))).trans (hcB i3 hlt3)
                subst hab
                have HY : Hid (Own wr w2.heap.size ax (lst (fn Bf) i3).length cx (lst (fn Bf) i3)) := hox
                have HBY : Hid (Below w2.heap.size w2 wr) := hbel
                have HMS : Hid (lst (fn Bf) (i3 + 1) = lst (fn Bf) i3 ++ [fn Bf i3]) := lst_succ _ _
                have hml2 : (lst (fn Bf) i3).length ≤ 1048576 := by omega
                clear hcB hox hbel hml
                generalize lst (fn Bf) i3 = M at *
                go_wp2_with (at_builtin; refine wpList_append_own _ rfl _ _ 22 rfl w2.heap.size 3 i0 (.int .i64 0) 1 8 Try.underlying22 hi0 hz0 hz1 hz2 rfl (by decide) _ _ _ rfl (World.ownsRow.alloc HY.out _) ⟨wr.heap.size, 0, none⟩ 1 1 [.int .i64 (fn Bf i3)] rfl rfl (cell_one_new _ _ _) (one_int (fn Bf i3)) ?c3 ?c4 ?c5 ?_)
                case c3 => unfold maxLen; omega
                case c4 => omega
                case c5 => first | omega | (simp; omega)
                intro v' w4 hown' hgrow _
                have HO4 : Hid (Own4 w4 w2.heap.size v' (M ++ [fn Bf i3])) := own4_of hown'
                have HB4 : Hid (Below w2.heap.size w2 w4) := acc_grow HY.out HBY.out (grown_trans (World.grownBy_alloc wr _ _) hgrow)
                clear hown' hgrow
                go_wp2
                go_roundw
                case rel => exact ⟨i3 + 1, by omega, by go_num, by rw [HMS.out]; exact HO4.out, HB4.out⟩
                case measure => simp [intOf]; omega
              · have e3 : i3 = Bf.length := by omega
                have hM : lst (fn Bf) i3 = Bf := by rw [e3, lst_fn]
                rw [hM] at hox hml ⊢
                obtain ⟨wx, hwx⟩ : ∃ wx, wx = wr := ⟨wr, rfl⟩
                subst hwx
                have HY : Hid (Own wx w2.heap.size ax Bf.length cx Bf) := hox
                have HBY : Hid (Below w2.heap.size w2 wx) := hbel
                clear hox hbel hM e3 hml HO3 HB3
                cases hpr : hasB f (P : Int) m with
                | true =>
                  have HOX : Hid (Own wx w.heap.size ac m cc (lst f m)) := HO2.out.kept HBY.out
                  have HRX : Hid (Row wx ac m f) := HOX.out.row.congr (fun i hi => lst_at f m i hi)
                  have HBX : Hid (Below w.heap.size w wx) := HB2.out.trans (HBY.out.mono hs2)
                  have HTX : Hid (t.In wx) := HT.out.carry HBX.out
                  have HPR : Hid ((P : Int) ∈ lst f m) := (hasB_iff _ _ _).1 hpr
                  clear HO2 HB2 HBY HF2 HRP2 HOX
                  go_wp2_with fail
                  refine (zzwp_has ac m cc f P (by omega) _ HRX.out HPR.out).mono ?_
                  rintro e wz ⟨rfl, hwz⟩
                  have hwz' := hwz.symm; clear hwz; subst hwz'
                  have lk := HLK.out ac m cc f wx (by omega) (by rw [HBf.out]; omega) HTX.out HRX.out HFT.out
                  rw [HBf.out] at lk
                  have HLKX : Hid (Calls Try.prog 12 #[.slice (some ⟨b, off, none⟩) t.N C, .slice ac m cc] wx (Linked Bf wx)) := lk
                  clear lk
                  go_wp2_with fail
                  refine HLKX.out.mono ?_
                  rintro e w4 ⟨aA, cA, rfl, hrA, hb4⟩
                  have HA4 : Hid (Row w4 aA Bf.length (fn Bf)) := hrA
                  have HW4 : Hid (Row w4 ax Bf.length (fn Bf)) := HY.out.row.carry hb4
                  have HB4 : Hid (Below w.heap.size w w4) := HBX.out.trans (hb4.mono HBX.out.size)
                  clear hrA hb4 HY HLKX
                  go_wp2_with fail
                  refine (same_yes aA ax Bf.length cA cx (fn Bf) (fn Bf) (by omega) _ HA4.out HW4.out (fun _ _ => rfl)).mono ?_
                  rintro e w6 ⟨rfl, q2, rfl⟩
                  go_wp2
                  go_ret
                  exact ⟨rfl, below_draws HB4.out q2⟩
                | false =>
                  have HPR : Hid (¬ (P : Int) ∈ lst f m) := (hasB_no _ _ _).1 hpr
                  generalize hra : t.ra P = raP at *
                  clear hra
                  go_wp2_with fail
                  go_loopw [15, 17] (fun x y wr => ∃ i : Nat, i ≤ t.rn P ∧ y = .int .i64 i ∧ Own4 wr w2.heap.size x (Bf ++ lst (t.g P) i) ∧ Below w2.heap.size w2 wr) (fun _ y _ => t.rn P - (intOf y).toNat)
                  case atStart => exact ⟨0, Nat.zero_le _, rfl, by rw [lst_zero, List.append_nil]; exact HY.out, HBY.out⟩
                  case round =>
                    obtain ⟨i4, hi4, rfl, hown, hbel⟩ := hrel
                    have hml : (Bf ++ lst (t.g P) i4).length = Bf.length + i4 := by rw [List.length_append, lst_len]
                    obtain ⟨ay, cy, rfl, hoy⟩ := own_shape hown
                    clear hown
                    have hsr4 : w2.heap.size ≤ wr.heap.size := hbel.size
                    by_cases hlt4 : i4 < t.rn P
                    · obtain ⟨bB, oB, hab, hcB⟩ := HRP2.out (by omega)
                      have hcell : wr.cell? ⟨bB, oB + i4, none⟩ = some (.int .i64 (t.g P i4)) := (hbel.cell (p := ⟨bB, oB + i4, none⟩) (cell_lt (hcB i4 hlt4))).trans (hcB i4 hlt4)
                      have HYY : Hid (Own wr w2.heap.size ay (Bf ++ lst (t.g P) i4).length cy (Bf ++ lst (t.g P) i4)) := hoy
                      have HBYY : Hid (Below w2.heap.size w2 wr) := hbel
                      have HMS : Hid (Bf ++ lst (t.g P) (i4 + 1) = (Bf ++ lst (t.g P) i4) ++ [t.g P i4]) := by show _ = _; rw [lst_succ, List.append_assoc]
                      have hml2 : (Bf ++ lst (t.g P) i4).length ≤ 2097152 := by omega
                      clear hcB hoy hbel hml
                      generalize Bf ++ lst (t.g P) i4 = M at *
                      subst hab
                      go_wp2_with (at_builtin; refine wpList_append_own _ rfl _ _ 22 rfl w2.heap.size 3 i0 (.int .i64 0) 1 8 Try.underlying22 hi0 hz0 hz1 hz2 rfl (by decide) _ _ _ rfl (World.ownsRow.alloc HYY.out _) ⟨wr.heap.size, 0, none⟩ 1 1 [.int .i64 (t.g P i4)] rfl rfl (cell_one_new _ _ _) (one_int (t.g P i4)) ?c3 ?c4 ?c5 ?_)
                      case c3 => unfold maxLen; omega
                      case c4 => omega
                      case c5 => first | omega | (simp; omega)
                      intro v' w4 hown' hgrow _
                      have HO4 : Hid (Own4 w4 w2.heap.size v' (M ++ [t.g P i4])) := own4_of hown'
                      have HB4 : Hid (Below w2.heap.size w2 w4) := acc_grow HYY.out HBYY.out (grown_trans (World.grownBy_alloc wr _ _) hgrow)
                      clear hown' hgrow
                      go_wp2
                      go_roundw
                      case rel => exact ⟨i4 + 1, by omega, by go_num, by rw [HMS.out]; exact HO4.out, HB4.out⟩
                      case measure => simp [intOf]; omega
                    · have e4 : i4 = t.rn P := by omega
                      have hM : Bf ++ lst (t.g P) i4 = Bf ++ t.row P := by rw [e4]; rfl
                      rw [hM] at hoy hml ⊢
                      obtain ⟨wy, hwy⟩ : ∃ wy, wy = wr := ⟨wr, rfl⟩
                      subst hwy
                      have HYY : Hid (Own wy w2.heap.size ay (Bf ++ t.row P).length cy (Bf ++ t.row P)) := hoy
                      have HOY : Hid (Own wy w.heap.size ac m cc (lst f m)) := HO2.out.kept hbel
                      have HBYY : Hid (Below w.heap.size w wy) := HB2.out.trans (hbel.mono hs2)
                      have HLT : Hid (∀ k, (Value.slice ac m cc).ownBlock = some k → k < w2.heap.size) := fun k hk => (HO2.out.lt k hk).2
                      have hsy : w.heap.size ≤ wy.heap.size := HBYY.out.size
                      have hmr : (Bf ++ t.row P).length ≤ 1048576 := by rw [hml]; omega
                      clear hoy hbel hM e4 hml HY HBY HO2 HB2 HF2 HRP2
                      go_wp2_with fail
                      refine (zzwp_new w.heap.size ac m cc (lst f m) P (by omega) _ hsy HOY.out HPR.out).mono ?_
                      rintro e w5 ⟨ag, cg, rfl, hog, hgg⟩
                      have HBG : Hid (Below w.heap.size w w5) := acc_grow HOY.out HBYY.out hgg
                      have HYG : Hid (Own w5 w2.heap.size ay (Bf ++ t.row P).length cy (Bf ++ t.row P)) := own_aside HYY.out hgg HLT.out
                      have HRG : Hid (Row w5 ag (m + 1) (fn (lst f m ++ [(P : Int)]))) := hog.row
                      have HTG : Hid (t.In w5) := HT.out.carry HBG.out
                      have HFG : Hid (Fits t (fn (lst f m ++ [(P : Int)])) (m + 1)) := fits_add HFT.out hP
                      have HLG : Hid (flat t.row (fn (lst f m ++ [(P : Int)])) (m + 1) = Bf ++ t.row P) := by show _ = _; rw [flat_add_one, HBf.out]
                      clear hog hgg HYY HOY HBYY HLT
                      have lk := HLK.out ag (m + 1) cg (fn (lst f m ++ [(P : Int)])) w5 (by omega) (by rw [HLG.out]; exact hmr) HTG.out HRG.out HFG.out
                      rw [HLG.out] at lk
                      have HLKX : Hid (Calls Try.prog 12 #[.slice (some ⟨b, off, none⟩) t.N C, .slice ag (m + 1) cg] w5 (Linked (Bf ++ t.row P) w5)) := lk
                      clear lk HLG HFG HRG HTG
                      generalize Bf ++ t.row P = F at *
                      go_wp2_with fail
                      refine HLKX.out.mono ?_
                      rintro e w6 ⟨aA, cA, rfl, hrA, hb6⟩
                      have HA6 : Hid (Row w6 aA F.length (fn F)) := hrA
                      have HW6 : Hid (Row w6 ay F.length (fn F)) := HYG.out.row.carry hb6
                      have HB6 : Hid (Below w.heap.size w w6) := HBG.out.trans (hb6.mono HBG.out.size)
                      clear hrA hb6 HYG HLKX HBG
                      go_wp2_with fail
                      refine (same_yes aA ay F.length cA cy (fn F) (fn F) (by omega) _ HA6.out HW6.out (fun _ _ => rfl)).mono ?_
                      rintro e w7 ⟨rfl, q2, rfl⟩
                      go_wp2
                      go_ret
                      exact ⟨rfl, below_draws HB6.out q2⟩

theorem aft_any (t : Tbl) (C : Nat) (ap : Option Addr) (m cp : Nat) (f : Nat → Int) (k : Int) (hN : t.N ≤ maxLen) (hm : m ≤ maxLen) (hnil : ap = none → m = 0 ∧ cp = 0) (w : World) (hT : t.In w) (hR : Row w ap m f) :
    Calls Try.prog 5 #[.slice t.A t.N C, .slice ap m cp, .int .i64 k] w (Good w) := by
  by_cases h : 65536 < t.N ∨ 65536 < m
  · exact aft_early t C ap m cp k hN hm h w hT
  · exact aft_main t C ap m cp f k (by omega) (by omega) hnil w hT hR
end Go.Proofs.Qxb6618035a.Walks
