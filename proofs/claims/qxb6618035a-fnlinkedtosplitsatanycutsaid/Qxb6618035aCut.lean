/- Walks over seat b6618035a: the law FnLinkedToSplitsAtAnyCut. -/
import Derived.Test.Qxb6618035aTable
import Derived.Laws.CopyOwn
namespace Go.Proofs.Qxb6618035a.Walks
open Go.RowKit
open Go.Proofs.Qxb6618035a.Plain

set_option maxRecDepth 100000 in
theorem cut_early (t : Tbl) (C : Nat) (ap : Option Addr) (m cp : Nat) (k : Int) (hN : t.N ≤ maxLen) (hm : m ≤ maxLen) (h : 65536 < t.N ∨ 65536 < m) (w : World) (hT : t.In w) :
    Calls Try.prog 4 #[.slice t.A t.N C, .slice ap m cp, .int .i64 k] w (Good w) := by
  have HT : Hid (t.In w) := hT
  clear hT
  by_cases g : 65536 < t.N
  · clear h
    go_enter Try.func4, Try.ntmps4
    go_wp2_with fail
    refine (zz11 t C ap m cp k hN hm _ HT.out).mono ?_
    rintro e w1 ⟨b, rfl, hb, hw⟩
    have hw' := hw.symm; clear hw hb; subst hw'
    cases b
    all_goals
      go_wp2
      go_ret
      exact ⟨rfl, Below.refl _ _⟩
  · have g1 : 65536 < m := by omega
    clear h
    go_enter Try.func4, Try.ntmps4
    go_wp2_with fail
    refine (zz11 t C ap m cp k hN hm _ HT.out).mono ?_
    rintro e w1 ⟨b, rfl, hb, hw⟩
    have hw' := hw.symm; clear hw hb; subst hw'
    cases b
    all_goals
      go_wp2
      go_ret
      exact ⟨rfl, Below.refl _ _⟩

/-! ### A row of ints copied into a block of the call's own -/
def cellsOf (f : Nat → Int) (n : Nat) : List Value := (List.range n).map fun i => .int .i64 (f i)
theorem cellsOf_len (f : Nat → Int) (n : Nat) : (cellsOf f n).length = n := by simp [cellsOf]
theorem cellsOf_at (f : Nat → Int) (n j : Nat) (v : Value) (h : (cellsOf f n)[j]? = some v) : j < n ∧ v = .int .i64 (f j) := by
  have hj : j < n := by
    have := (List.getElem?_eq_some_iff.1 h).1
    simpa [cellsOf] using this
  simp [cellsOf, List.getElem?_range hj] at h
  exact ⟨hj, h.symm⟩
theorem cellsOf_one (f : Nat → Int) (n : Nat) : ∀ v ∈ cellsOf f n, v.oneCell' = true := by
  intro v hv
  simp [cellsOf] at hv
  obtain ⟨i, _, rfl⟩ := hv
  rfl
theorem new_block (w : World) (o : Obj) : (w.alloc o).heap[w.heap.size]? = some o := by
  show (w.heap.push o)[w.heap.size]? = _
  simp
theorem Row.pos {w : World} {a : Option Addr} {n : Nat} {f : Nat → Int} (h : Row w a n f) {dp : Option Addr} {g off : Nat} (hd : 0 < n → dp = some ⟨g, off, none⟩) :
    0 < (cellsOf f n).length → dp = some ⟨g, off, none⟩ ∧ ∃ ad, a = some ad ∧ ∀ j v, (cellsOf f n)[j]? = some v → w.cell? (ad.add j) = some v := by
  rw [cellsOf_len]
  intro hn
  obtain ⟨b, o, rfl, hc⟩ := h hn
  refine ⟨hd hn, _, rfl, fun j v hj => ?_⟩
  obtain ⟨hjn, rfl⟩ := cellsOf_at f n j v hj
  have ea : (⟨b, o, none⟩ : Addr).add j = ⟨b, o + j, none⟩ := by unfold Addr.add; split <;> simp_all
  rw [ea]; exact hc j hjn
theorem copied {w w2 : World} {Z : List Value} {f : Nat → Int} {n : Nat} (hZ : Z.length = n) (hg : w2.heap[w.heap.size]? = some (.cells (splice Z 0 (cellsOf f n)).toArray 3 (0, 0))) :
    ∀ i, i < n → w2.cell? ⟨w.heap.size, i, none⟩ = some (.int .i64 (f i)) := by
  intro i hi
  have e : splice Z 0 (cellsOf f n) = cellsOf f n := by
    unfold splice
    rw [cellsOf_len, List.drop_eq_nil_of_le (by omega)]
    simp
  rw [e] at hg
  simp only [World.cell?, hg]
  rw [if_neg (by simp), List.getElem?_toArray]
  simp [cellsOf, hi]

theorem zzlk_zero (t : Tbl) (C : Nat) (ap : Option Addr) (cp : Nat) (w : World) :
    Calls Try.prog 12 #[.slice t.A t.N C, .slice ap 0 cp] w fun e w' => ∃ a c, e = .returned (.slice a 0 c) ∧ Below w.heap.size w w' := by
  go_enter Try.func12, Try.ntmps12
  go_wp2_with fail
  refine (lk_none t C ap cp _).mono ?_
  rintro e w' ⟨a, c, rfl, hr, hb⟩
  have HB' : Hid _ := hb
  clear hr hb
  go_wp2
  go_ret
  exact ⟨a, c, rfl, HB'.out⟩

set_option maxRecDepth 100000 in
set_option maxHeartbeats 4000000 in
theorem cut_main (t : Tbl) (C : Nat) (ad : Addr) (m cp : Nat) (f : Nat → Int) (k : Int) (hN : t.N ≤ 65536) (hm : m ≤ 65536) (w : World) (hT : t.In w) (hR : Row w (some ad) m f) :
    Calls Try.prog 4 #[.slice t.A t.N C, .slice (some ad) m cp, .int .i64 k] w (Good w) := by
  have hne := fun w => run_neq_slice_nil_any (P := Try.prog) w 22 3 (some ad) m cp 0 0 Try.underlying22
  have hmk := fun w => run_make_row' (P := Try.prog) 22 3 (.int .i64 0) 8 Try.underlying22 info3 rfl .i64 .i64 m (by omega) (by omega) w
  obtain ⟨Z, hZ, hZl⟩ : ∃ Z : List Value, madeCells #[.int .i64 0] m = Z.toArray ∧ Z.length = m := ⟨(madeCells #[.int .i64 0] m).toList, by simp, by simp [size_madeCells]⟩
  rw [hZ] at hmk
  have HZ : Hid (Z.length = m) := hZl
  clear hZ hZl
  have HT : Hid (t.In w) := hT
  have HR : Hid (Row (w.alloc (.cells Z.toArray 3)) (some ad) m f) := hR.carry ((Below.refl _ _).alloc (Nat.le_refl _) _)
  clear hT hR
  go_enter Try.func4, Try.ntmps4
  go_wp2_with fail
  refine (zz11 t C (some ad) m cp k (by unfold maxLen; omega) (by unfold maxLen; omega) _ HT.out).mono ?_
  rintro e w1 ⟨b, rfl, hb, hw⟩
  have hw' := hw.symm; clear hw; subst hw'
  cases b with
  | false =>
    clear hb
    go_wp2
    go_ret
    exact ⟨rfl, Below.refl _ _⟩
  | true =>
    have HS : Hid (Short t) := hb rfl
    clear hb
    go_wp2_with (refine wpList_copy_splice rfl (.tmp 38) (.tmp 39) 22 22 rfl 3 Try.underlying22 size3 _ _ _ _ _ _ rfl rfl _ 0 Z 3 (new_block _ _) (cellsOf f m) ?hn (HR.out.pos (fun _ => rfl)) ?hfit (cellsOf_one _ _) _ _ ((Below.refl _ _).alloc (Nat.le_refl _) _) (Nat.le_refl _) ?_)
    case hn => rw [cellsOf_len]; show m = min m m; omega
    case hfit => rw [cellsOf_len, HZ.out]; omega
    intro w2 HG2 hB2
    have hlt2 : w.heap.size < w2.heap.size := (Array.getElem?_eq_some_iff.1 HG2.out).1
    have HD2 : Hid (∀ i, i < m → w2.cell? ⟨w.heap.size, i, none⟩ = some (.int .i64 (f i))) := copied HZ.out HG2.out
    have HT2 : Hid (t.In w2) := HT.out.carry hB2
    have HB2 : Hid (Below w.heap.size w w2) := hB2
    clear HG2 HR HT hmk HZ hB2 hne
    go_wp2_with fail
    go_loop [8, 9] (fun x y => ∃ i : Nat, i ≤ t.N ∧ y = .int .i64 i ∧ ∃ z : Int, x = .int .i64 z ∧ 0 ≤ z ∧ z ≤ 1048576) (fun _ y => t.N - (intOf y).toNat)
    case atStart => exact ⟨0, Nat.zero_le _, rfl, _, rfl, by omega, by omega⟩
    case round =>
      obtain ⟨i, hi, rfl, z, rfl, z0, z1⟩ := hrel
      by_cases hlt : i < t.N
      · obtain ⟨b, off, hA, hc⟩ := HT2.out.head (by omega)
        have hcell := hc i hlt
        have hsh := HS.out i hlt
        clear hc
        generalize t.A = A at *
        subst hA
        by_cases g2 : z + 8 * t.rn i ≤ 1048576
        · go_wp2
          go_round
          case rel => exact ⟨i + 1, by omega, by go_num, _, rfl, by omega, by omega⟩
          case measure => simp [intOf]; omega
        · go_wp2
          go_ret
          exact ⟨rfl, HB2.out⟩
      · have hiN : ¬ i < t.N := hlt
        by_cases k0 : k < 0
        · go_wp2
          go_ret
          exact ⟨rfl, HB2.out⟩
        by_cases k1 : (m : Int) < k
        · go_wp2
          go_ret
          exact ⟨rfl, HB2.out⟩
        obtain ⟨K, rfl⟩ := Int.eq_ofNat_of_zero_le (show 0 ≤ k by omega)
        have hK : K ≤ m := by omega
        clear k0 k1
        go_wp2_with fail
        go_loop [10, 11] (fun x y => ∃ j : Nat, j ≤ m ∧ y = .int .i64 j ∧ x = .int .i64 (flat t.row f j).length ∧ (flat t.row f j).length ≤ 131072 ∧ Fits t f j) (fun _ y => m - (intOf y).toNat)
        case atStart => exact ⟨0, Nat.zero_le _, rfl, rfl, Nat.zero_le _, fun i h => absurd h (Nat.not_lt_zero i)⟩
        case round =>
          obtain ⟨j, hj, rfl, rfl, hfl, hfit⟩ := hrel
          have HFT : Hid (Fits t f j) := hfit
          clear hfit
          by_cases hlt : j < m
          · have hcp := HD2.out j hlt
            by_cases q0 : f j < 0
            · go_wp2
              go_ret
              exact ⟨rfl, HB2.out⟩
            by_cases q1 : (t.N : Int) ≤ f j
            · go_wp2
              go_ret
              exact ⟨rfl, HB2.out⟩
            obtain ⟨q, hq⟩ := Int.eq_ofNat_of_zero_le (show 0 ≤ f j by omega)
            have hqN : (q : Int) < t.N := by omega
            have HFL : Hid (flat t.row f (j + 1) = flat t.row f j ++ t.row q) := by show _ = _; simp only [flat]; rw [hq]; simp
            have HFT' : Hid (Fits t f (j + 1)) := fun x hx => by
              by_cases e : x = j
              · subst e; omega
              · exact HFT.out x (by omega)
            rw [hq] at hcp
            obtain ⟨b, off, hA, hc⟩ := HT2.out.head (by omega)
            have hcell := hc q (by omega)
            have hsh := HS.out q (by omega)
            clear hc q0 q1 hq
            generalize t.A = A at *
            subst hA
            generalize hL : flat t.row f j = L at *
            have HL : Hid (flat t.row f j = L) := hL
            clear hL
            by_cases g2 : L.length + t.rn q ≤ 131072
            · go_wp2
              go_round
              case rel => exact ⟨j + 1, by omega, by go_num, by rw [HFL.out, List.length_append, Tbl.row_len]; go_num, by rw [HFL.out, List.length_append, Tbl.row_len]; exact g2, HFT'.out⟩
              case measure => simp [intOf]; omega
            · go_wp2
              go_ret
              exact ⟨rfl, HB2.out⟩
          · have ejm : m = j := by omega
            subst ejm
            have HRP : Hid (Row w2 (some ⟨w.heap.size, 0, none⟩) m f) := fun _ => ⟨w.heap.size, 0, rfl, fun x hx => by rw [Nat.zero_add]; exact HD2.out x hx⟩
            go_wp2_with fail
            refine (zzlk_any t C _ m m f (by omega) (by omega) _ HT2.out HRP.out HFT.out).mono ?_
            rintro e w3 ⟨aW, cW, rfl, hrW, hb3⟩
            have HW3 : Hid (Row w3 aW (flat t.row f m).length (fn (flat t.row f m))) := hrW
            have HT3 : Hid (t.In w3) := HT2.out.carry hb3
            have HD3 : Hid (∀ x, x < m → w3.cell? ⟨w.heap.size, x, none⟩ = some (.int .i64 (f x))) := fun x hx => (hb3.cell (p := ⟨w.heap.size, x, none⟩) hlt2).trans (HD2.out x hx)
            have HB3 : Hid (Below w.heap.size w w3) := HB2.out.trans (hb3.mono (Nat.le_of_lt hlt2))
            have hlt3 : w.heap.size < w3.heap.size := Nat.lt_of_lt_of_le hlt2 hb3.size
            clear hrW hb3 HB2 HT2 HD2 HRP
            go_wp2_with fail
            have HFK : Hid (Fits t f K) := fun x hx => HFT.out x (by omega)
            have hmK : (flat t.row f K).length ≤ 131072 := Nat.le_trans (flat_mono t.row f K m hK) hfl
            have HRK : Hid (Row w3 (some ⟨w.heap.size, 0, none⟩) K f) := fun _ => ⟨w.heap.size, 0, rfl, fun x hx => by rw [Nat.zero_add]; exact HD3.out x (by omega)⟩
            refine (zzlk_any t C _ K m f (by omega) (by omega) _ HT3.out HRK.out HFK.out).mono ?_
            rintro e w4 ⟨aL, cL, rfl, hrL, hb4⟩
            have HL4 : Hid (Row w4 aL (flat t.row f K).length (fn (flat t.row f K))) := hrL
            have HW4 : Hid (Row w4 aW (flat t.row f m).length (fn (flat t.row f m))) := HW3.out.carry hb4
            have HT4 : Hid (t.In w4) := HT3.out.carry hb4
            have HD4 : Hid (∀ x, x < m → w4.cell? ⟨w.heap.size, x, none⟩ = some (.int .i64 (f x))) := fun x hx => (hb4.cell (p := ⟨w.heap.size, x, none⟩) hlt3).trans (HD3.out x hx)
            have HB4 : Hid (Below w.heap.size w w4) := HB3.out.trans (hb4.mono (Nat.le_of_lt hlt3))
            have hlt4 : w.heap.size < w4.heap.size := Nat.lt_of_lt_of_le hlt3 hb4.size
            clear hrL hb4 HB3 HT3 HD3 HRK HW3 HFK
            by_cases hKm : K = m
            · subst hKm
              go_wp2_with fail
              refine (zzlk_zero t C _ 0 _).mono ?_
              rintro e w5 ⟨aR, cR, rfl, hb5⟩
              have HL5 : Hid (Row w5 aL (flat t.row f K).length (fn (flat t.row f K))) := HL4.out.carry hb5
              have HW5 : Hid (Row w5 aW (flat t.row f K).length (fn (flat t.row f K))) := HW4.out.carry hb5
              have HB5 : Hid (Below w.heap.size w w5) := HB4.out.trans (hb5.mono (Nat.le_of_lt hlt4))
              clear hb5 HB4 HT4 HD4 HW4 HL4
              generalize flat t.row f K = L at *
              go_wp2_with fail
              go_loopw [16] (fun x wr => ∃ i : Nat, i ≤ L.length ∧ x = .int .i64 i ∧ ∃ q, wr = w5.drewN q) (fun x _ => L.length - (intOf x).toNat)
              case atStart => exact ⟨0, Nat.zero_le _, rfl, 0, rfl⟩
              case round =>
                obtain ⟨i3, hi3, rfl, q3, rfl⟩ := hrel
                by_cases hlt3 : i3 < L.length
                · obtain ⟨bW, oW, rfl, hcW⟩ := HW5.out (by omega)
                  obtain ⟨bL, oL, rfl, hcL⟩ := HL5.out (by omega)
                  have c1 : w5.cell? ⟨bW, oW + i3, none⟩ = some (.int .i64 (fn L i3)) := hcW i3 hlt3
                  have c2 : w5.cell? ⟨bL, oL + i3, none⟩ = some (.int .i64 (fn L i3)) := hcL i3 hlt3
                  have d2 : (i3 : Int) < L.length := by omega
                  clear hcW hcL
                  go_wp2
                  go_quiet (fail)
                  go_wp2
                  go_roundw
                  case rel => exact ⟨i3 + 1, by omega, by go_num, _, rfl⟩
                  case measure => simp [intOf]; omega
                · have HB6 : Hid (Below w.heap.size w (w5.drewN q3)) := below_draws HB5.out q3
                  clear HB5 HW5 HL5
                  generalize w5.drewN q3 = w6 at *
                  go_wp2_with fail
                  refine wp_loop_rounds 1 ?_
                  rw [rounds_succ]
                  go_wp2
                  go_ret
                  exact ⟨rfl, HB6.out⟩
            · have hKlt : K < m := by omega
              have hKlt' : (K : Int) < m := by omega
              go_wp2_with fail
              have HFR : Hid (Fits t (fun x => f (K + x)) (m - K)) := fun x hx => HFT.out (K + x) (by omega)
              have hsplit : flat t.row f m = flat t.row f K ++ flat t.row (fun x => f (K + x)) (m - K) := by rw [← flat_add, Nat.add_sub_cancel' hK]
              have hsum : (flat t.row f m).length = (flat t.row f K).length + (flat t.row (fun x => f (K + x)) (m - K)).length := by rw [hsplit, List.length_append]
              have HFI : Hid (∃ Y, flat t.row (fun x => f (K + x)) (m - K) = t.row (f K).toNat ++ Y) := by
                refine ⟨flat t.row (fun x => f (K + (1 + x))) (m - K - 1), ?_⟩
                have e : m - K = 1 + (m - K - 1) := by omega
                rw [e, flat_add, flat_one]
                simp
              have HRR : Hid (Row w4 (some ⟨w.heap.size, K, none⟩) (m - K) (fun x => f (K + x))) := fun _ => ⟨w.heap.size, K, rfl, fun x hx => HD4.out (K + x) (by omega)⟩
              have HSP : Hid (flat t.row f m = flat t.row f K ++ flat t.row (fun x => f (K + x)) (m - K)) := hsplit
              have HSM : Hid ((flat t.row f m).length = (flat t.row f K).length + (flat t.row (fun x => f (K + x)) (m - K)).length) := hsum
              refine (zzlk_any t C _ (m - K) (m - K) (fun x => f (K + x)) (by omega) (by omega) _ HT4.out HRR.out HFR.out).mono ?_
              clear hsplit hsum
              rintro e w5 ⟨aR, cR, rfl, hrR, hb5⟩
              have HR5 : Hid (Row w5 aR (flat t.row (fun x => f (K + x)) (m - K)).length (fn (flat t.row (fun x => f (K + x)) (m - K)))) := hrR
              have HL5 : Hid (Row w5 aL (flat t.row f K).length (fn (flat t.row f K))) := HL4.out.carry hb5
              have HW5 : Hid (Row w5 aW (flat t.row f m).length (fn (flat t.row f m))) := HW4.out.carry hb5
              have HT5 : Hid (t.In w5) := HT4.out.carry hb5
              have HD5 : Hid (∀ x, x < m → w5.cell? ⟨w.heap.size, x, none⟩ = some (.int .i64 (f x))) := fun x hx => (hb5.cell (p := ⟨w.heap.size, x, none⟩) hlt4).trans (HD4.out x hx)
              have HB5 : Hid (Below w.heap.size w w5) := HB4.out.trans (hb5.mono (Nat.le_of_lt hlt4))
              clear hrR hb5 HB4 HT4 HD4 HRR HW4 HL4 HFR
              generalize flat t.row f m = W at *
              generalize flat t.row f K = L at *
              generalize flat t.row (fun x => f (K + x)) (m - K) = R at *
              have s1 : W.length ≤ L.length + R.length := Nat.le_of_eq HSM.out
              have s2 : L.length + R.length ≤ W.length := Nat.le_of_eq HSM.out.symm
              have sb : (((L.length : Int) + R.length) != W.length) = false := by rw [HSM.out]; simp
              go_wp2_with fail
              go_loopw [16] (fun x wr => ∃ i : Nat, i ≤ L.length ∧ x = .int .i64 i ∧ ∃ q, wr = w5.drewN q) (fun x _ => L.length - (intOf x).toNat)
              case atStart => exact ⟨0, Nat.zero_le _, rfl, 0, rfl⟩
              case round =>
                obtain ⟨i3, hi3, rfl, q3, rfl⟩ := hrel
                by_cases hlt3 : i3 < L.length
                · obtain ⟨bW, oW, rfl, hcW⟩ := HW5.out (by omega)
                  obtain ⟨bL, oL, rfl, hcL⟩ := HL5.out (by omega)
                  have c1 : w5.cell? ⟨bW, oW + i3, none⟩ = some (.int .i64 (fn W i3)) := hcW i3 (by omega)
                  have c2 : w5.cell? ⟨bL, oL + i3, none⟩ = some (.int .i64 (fn L i3)) := hcL i3 hlt3
                  have hne : (fn W i3 != fn L i3) = false := by rw [HSP.out, fn_left _ _ _ hlt3]; simp
                  have d1 : (i3 : Int) < W.length := by omega
                  have d2 : (i3 : Int) < L.length := by omega
                  clear hcW hcL
                  go_wp2
                  go_quiet (fail)
                  go_wp2
                  go_roundw
                  case rel => exact ⟨i3 + 1, by omega, by go_num, _, rfl⟩
                  case measure => simp [intOf]; omega
                · have HW6 : Hid (Row (w5.drewN q3) aW W.length (fn W)) := HW5.out
                  have HR6 : Hid (Row (w5.drewN q3) aR R.length (fn R)) := HR5.out
                  have HT6 : Hid (t.In (w5.drewN q3)) := HT5.out.carry (below_draws (Below.refl _ _) q3)
                  have HD6 : Hid (∀ x, x < m → (w5.drewN q3).cell? ⟨w.heap.size, x, none⟩ = some (.int .i64 (f x))) := HD5.out
                  have HB6 : Hid (Below w.heap.size w (w5.drewN q3)) := below_draws HB5.out q3
                  clear HW5 HR5 HT5 HD5 HB5 HL5
                  generalize w5.drewN q3 = w6 at *
                  go_wp2_with fail
                  go_loopw [17] (fun x wr => ∃ i : Nat, i ≤ R.length ∧ x = .int .i64 i ∧ ∃ q, wr = w6.drewN q) (fun x _ => R.length - (intOf x).toNat)
                  case atStart => exact ⟨0, Nat.zero_le _, rfl, 0, rfl⟩
                  case round =>
                    obtain ⟨i4, hi4, rfl, q4, rfl⟩ := hrel
                    by_cases hlt4 : i4 < R.length
                    · obtain ⟨bW, oW, rfl, hcW⟩ := HW6.out (by omega)
                      obtain ⟨bR, oR, rfl, hcR⟩ := HR6.out (by omega)
                      have c1 : w6.cell? ⟨bW, oW + (L.length + i4), none⟩ = some (.int .i64 (fn W (L.length + i4))) := hcW (L.length + i4) (by omega)
                      have c2 : w6.cell? ⟨bR, oR + i4, none⟩ = some (.int .i64 (fn R i4)) := hcR i4 hlt4
                      have hne : (fn W (L.length + i4) != fn R i4) = false := by rw [HSP.out, fn_right]; simp
                      have d1 : (L.length : Int) + i4 < W.length := by omega
                      have d2 : (i4 : Int) < R.length := by omega
                      clear hcW hcR
                      go_wp2
                      go_quiet (fail)
                      go_wp2
                      go_roundw
                      case rel => exact ⟨i4 + 1, by omega, by go_num, _, rfl⟩
                      case measure => simp [intOf]; omega
                    · have HR7 : Hid (Row (w6.drewN q4) aR R.length (fn R)) := HR6.out
                      have HT7 : Hid (t.In (w6.drewN q4)) := HT6.out.carry (below_draws (Below.refl _ _) q4)
                      have HD7 : Hid (∀ x, x < m → (w6.drewN q4).cell? ⟨w.heap.size, x, none⟩ = some (.int .i64 (f x))) := HD6.out
                      have HB7 : Hid (Below w.heap.size w (w6.drewN q4)) := below_draws HB6.out q4
                      clear HW6 HR6 HT6 HD6 HB6
                      generalize w6.drewN q4 = w7 at *
                      obtain ⟨q, hq⟩ := Int.eq_ofNat_of_zero_le (HFT.out K hKlt).1
                      have hqN : (q : Int) < t.N := by have := (HFT.out K hKlt).2; omega
                      have hcK := HD7.out K hKlt
                      rw [hq] at hcK
                      obtain ⟨b, off, hA, hc⟩ := HT7.out.head (by omega)
                      have hcq : w7.cell? ⟨b, off + q, none⟩ = some (.slice (t.ra q) (t.rn q) (t.rc q)) := hc q (by omega)
                      have HRQ : Hid (Row w7 (t.ra q) (t.rn q) (t.g q)) := HT7.out.rows q (by omega)
                      have HFI' : Hid (∃ Y, R = t.row q ++ Y) := by
                        obtain ⟨Y, hY⟩ := HFI.out
                        exact ⟨Y, by rw [hY, hq]; simp⟩
                      have hRn : t.rn q ≤ R.length := by
                        obtain ⟨Y, hY⟩ := HFI'.out
                        rw [hY, List.length_append, Tbl.row_len]; omega
                      clear hc hq HT7 HD7 HFI
                      generalize t.A = A at *
                      subst hA
                      generalize hra : t.ra q = raq at *
                      clear hra
                      go_wp2_with fail
                      go_loopw [19] (fun x wr => ∃ i : Nat, i ≤ t.rn q ∧ x = .int .i64 i ∧ ∃ q, wr = w7.drewN q) (fun x _ => t.rn q - (intOf x).toNat)
                      case atStart => exact ⟨0, Nat.zero_le _, rfl, 0, rfl⟩
                      case round =>
                        obtain ⟨i5, hi5, rfl, q5, rfl⟩ := hrel
                        by_cases hlt5 : i5 < t.rn q
                        · obtain ⟨bR, oR, rfl, hcR⟩ := HR7.out (by omega)
                          obtain ⟨bQ, oQ, rfl, hcQ⟩ := HRQ.out (by omega)
                          have c1 : w7.cell? ⟨bR, oR + i5, none⟩ = some (.int .i64 (fn R i5)) := hcR i5 (by omega)
                          have c2 : w7.cell? ⟨bQ, oQ + i5, none⟩ = some (.int .i64 (t.g q i5)) := hcQ i5 hlt5
                          have hne : (fn R i5 != t.g q i5) = false := by
                            obtain ⟨Y, hY⟩ := HFI'.out
                            rw [hY, fn_left _ _ _ (by rw [Tbl.row_len]; exact hlt5)]
                            simp [fn, Tbl.row, lst, hlt5]
                          have d1 : (i5 : Int) < R.length := by omega
                          have d2 : (i5 : Int) < t.rn q := by omega
                          clear hcR hcQ
                          go_wp2
                          go_quiet (fail)
                          go_wp2
                          go_roundw
                          case rel => exact ⟨i5 + 1, by omega, by go_num, _, rfl⟩
                          case measure => simp [intOf]; omega
                        · go_wp2
                          go_ret
                          exact ⟨rfl, below_draws HB7.out q5⟩
end Go.Proofs.Qxb6618035a.Walks
