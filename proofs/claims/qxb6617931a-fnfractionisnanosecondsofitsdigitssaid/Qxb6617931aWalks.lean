/- Walks over seat b6617931a: the helpers of the laws and (*reader).number, each by a contract. -/
import Derived.Test.Qxb6617931aRows
import Derived.Test.Qxb6617931aPlain
import Derived.WalkKit
import Derived.WalkSpells
import Derived.RowKit3
import Derived.Below
import Derived.Deep.QuietTactic
import Derived.BigQuiet
namespace Go.Proofs.Qxb6617931a.Walks
open Go.RowKit
open Go.Proofs.Qxb6617931a.Plain
theorem ret_bool {a b : Bool} (h : a = b) : Ending.returned (.bool a) = .returned (.bool b) := by rw [h]
theorem ret_int {k : IntKind} {a b : Int} (h : a = b) : Ending.returned (.int k a) = .returned (.int k b) := by rw [h]

theorem isDigit_any (n : Int) (w : World) : Calls Try.prog 23 #[.int .u8 n] w fun e w' => e = .returned (.bool (isD n)) ∧ w' = w := by
  by_cases h1 : 48 ≤ n
  · by_cases h2 : n ≤ 57
    · go_enter Try.func23, Try.ntmps23
      go_wp2
      go_ret
      exact ⟨ret_bool ((isD_iff n).2 ⟨h1, h2⟩).symm, rfl⟩
    · go_enter Try.func23, Try.ntmps23
      go_wp2
      go_ret
      exact ⟨ret_bool ((isD_no n).2 (by omega)).symm, rfl⟩
  · go_enter Try.func23, Try.ntmps23
    go_wp2
    go_ret
    exact ⟨ret_bool ((isD_no n).2 (by omega)).symm, rfl⟩

theorem allDigits_any (s : ByteArray) (k : Nat) (hk : k ≤ s.size) (hs : s.size ≤ 65536) (w : World) :
    Calls Try.prog 11 #[.string s, .int .i64 k] w fun e w' => e = .returned (.bool (allD (s.data.toList.take k))) ∧ w' = w := by
  go_enter Try.func11, Try.ntmps11
  go_wp2
  go_loop [5] (fun i => ∃ j : Nat, j ≤ k ∧ i = .int .i64 j ∧ allD (s.data.toList.take j) = true) (fun i => k - (intOf i).toNat)
  case atStart => exact ⟨0, Nat.zero_le _, rfl, rfl⟩
  case round =>
    obtain ⟨j, hj, rfl, hall⟩ := hrel
    have HA : Hid (allD (s.data.toList.take j) = true) := hall
    clear hall
    by_cases hlt : j < k
    · have hjs : j < s.size := by omega
      by_cases hd : isD (s[j].toNat : Int) = true
      · go_wp2_with (go_at_call 23; refine (isDigit_any _ _).mono ?_; rintro e w' ⟨rfl, rfl⟩)
        go_round
        case rel => exact ⟨j + 1, by omega, by go_num, by rw [take_snoc s j hjs, allD_snoc, HA.out, hd]; rfl⟩
        case measure => simp [intOf]; omega
      · have hd' : isD (s[j].toNat : Int) = false := by simpa using hd
        clear hd
        go_wp2_with (go_at_call 23; refine (isDigit_any _ _).mono ?_; rintro e w' ⟨rfl, rfl⟩)
        go_ret
        refine ⟨ret_bool ?_, rfl⟩
        have hsp : s.data.toList.take k = s.data.toList.take (j + 1) ++ (s.data.toList.take k).drop (j + 1) := by
          conv => lhs; rw [← List.take_append_drop (j + 1) (s.data.toList.take k)]
          rw [List.take_take, Nat.min_eq_left (by omega)]
        rw [hsp, allD_append, take_snoc s j hjs, allD_snoc, hd']
        simp
    · go_wp2
      go_ret
      obtain rfl : j = k := by omega
      exact ⟨ret_bool HA.out.symm, rfl⟩

/-- The digits from j on, of the first k. -/
def mid (s : ByteArray) (j k : Nat) : List UInt8 := (s.data.toList.take k).drop j
theorem mid_end (s : ByteArray) (k : Nat) : mid s k k = [] := by
  simp [mid]
theorem mid_zero (s : ByteArray) (k : Nat) : mid s 0 k = s.data.toList.take k := rfl
theorem mid_step (s : ByteArray) (j k : Nat) (hj : j < k) (hk : k ≤ s.size) : mid s j k = s[j]'(by omega) :: mid s (j + 1) k := by
  unfold mid
  have h : j < (s.data.toList.take k).length := by simp; show j < min k s.size; omega
  rw [List.drop_eq_getElem_cons h]
  simp
  rfl
theorem mid_len (s : ByteArray) (j k : Nat) (hk : k ≤ s.size) : (mid s j k).length = k - j := by
  unfold mid
  simp
  show min k s.size - j = k - j
  omega

theorem value_step (s : ByteArray) (j k : Nat) (hj : j < k) (hk : k ≤ s.size) :
    wrap64 (wrap64 (val (mid s (j + 1) k)) + wrap64 ((((s[j]'(by omega)).toNat : Int) - 48) * wrap64 (10 ^ (k - (j + 1))))) = wrap64 (val (mid s j k)) := by
  rw [mid_step s j k hj hk, val_cons, mid_len s _ _ hk, w64_mul_r, w64_add, Int.add_comm]
  rfl
theorem pow_step (j k : Nat) (hj : j < k) : wrap64 (wrap64 (10 ^ (k - (j + 1))) * 10) = wrap64 (10 ^ (k - j)) := by
  rw [w64_mul_l, ← Int.pow_succ, show (k - (j + 1)).succ = k - j from by omega]

theorem valueFromRight_any (s : ByteArray) (k : Nat) (hk : k ≤ s.size) (hs : s.size ≤ 65536) (hall : Hid (allD (s.data.toList.take k) = true)) (w : World) :
    Calls Try.prog 12 #[.string s, .int .i64 k] w fun e w' => e = .returned (.int .i64 (wrap64 (val (s.data.toList.take k)))) ∧ w' = w := by
  go_enter Try.func12, Try.ntmps12
  go_wp2
  go_loop [5, 6, 7] (fun v p i => ∃ j : Nat, j ≤ k ∧ i = .int .i64 ((j : Int) - 1) ∧ p = .int .i64 (wrap64 (10 ^ (k - j))) ∧ v = .int .i64 (wrap64 (val (mid s j k)))) (fun _ _ i => (intOf i + 1).toNat)
  case atStart => exact ⟨k, Nat.le_refl _, rfl, by simp [wrap64], by rw [mid_end]; simp [val, wrap64]⟩
  case round =>
    obtain ⟨j, hj, rfl, rfl, rfl⟩ := hrel
    match j, hj with
    | 0, hj =>
      go_wp2
      go_ret
      exact ⟨ret_int (by rw [mid_zero]), rfl⟩
    | j + 1, hj =>
      have hjs : j < s.size := by omega
      have hd : 48 ≤ (s[j].toNat : Int) ∧ (s[j].toNat : Int) ≤ 57 := by
        have := allD_mem hall.out j (by simp; show j < min k s.size; omega)
        simp at this
        exact this
      obtain ⟨hd1, hd2⟩ := hd
      go_wp2
      go_round
      case rel => exact ⟨j, by omega, rfl, by rw [pow_step j k (by omega)], by rw [value_step s j k (by omega) hk]⟩
      case measure => simp [intOf]

theorem zz9 (s : ByteArray) (b : Bool) (x y z : Int) (hs : s.size ≤ maxLen) (w : World) : Calls Try.prog 9 #[.string s, .bool b, .int .i64 x, .int .i64 y, .int .i64 z] w fun e w' => e = .returned (.bool (decide ((s.size : Int) ≤ 1048576))) ∧ w' = w := by
  unfold maxLen at hs
  by_cases h : (s.size : Int) ≤ 1048576
  · go_enter Try.func9, Try.ntmps9
    go_wp2
    go_ret
    exact ⟨by simp [h], rfl⟩
  · go_enter Try.func9, Try.ntmps9
    go_wp2
    go_ret
    exact ⟨by simp [h], rfl⟩

theorem zz21 (s : ByteArray) (b : Bool) (x y : Int) (hs : s.size ≤ maxLen) (w : World) : Calls Try.prog 21 #[.string s, .bool b, .int .i64 x, .int .i64 y] w fun e w' => e = .returned (.bool (decide ((s.size : Int) ≤ 1048576))) ∧ w' = w := by
  unfold maxLen at hs
  by_cases h : (s.size : Int) ≤ 1048576
  · go_enter Try.func21, Try.ntmps21
    go_wp2
    go_ret
    exact ⟨by simp [h], rfl⟩
  · go_enter Try.func21, Try.ntmps21
    go_wp2
    go_ret
    exact ⟨by simp [h], rfl⟩

theorem pow10_any (k : Nat) (hk : (k : Int) ≤ 65536) (w : World) : Calls Try.prog 18 #[.int .i64 k] w fun e w' => e = .returned (.int .i64 (wrap64 (10 ^ k))) ∧ w' = w := by
  go_enter Try.func18, Try.ntmps18
  go_wp2
  go_loop [3, 4] (fun p i => ∃ j : Nat, j ≤ k ∧ i = .int .i64 j ∧ p = .int .i64 (wrap64 (10 ^ j))) (fun _ i => k - (intOf i).toNat)
  case atStart => exact ⟨0, Nat.zero_le _, rfl, by simp [wrap64]⟩
  case round =>
    obtain ⟨j, hj, rfl, rfl⟩ := hrel
    by_cases hlt : j < k
    · go_wp2
      go_round
      case rel => exact ⟨j + 1, by omega, by go_num, by rw [w64_mul_l, Int.pow_succ]⟩
      case measure => simp [intOf]; omega
    · go_wp2
      go_ret
      obtain rfl : j = k := by omega
      exact ⟨rfl, rfl⟩

theorem extract_at (s : ByteArray) (k j : Nat) (hj : j < (s.extract 0 k).size) (h : j < s.size) : (s.extract 0 k)[j] = s[j] := by
  simp [ByteArray.getElem_extract]

theorem bytes_world (w : World) (s : ByteArray) (k c : Nat) (e : TypeId) (m : Nat × Nat) (hk : k ≤ s.size) :
    (∀ j (hj : j < k), (w.alloc (.cells (bytesRow (s.extract 0 k) c) e m)).drew.cell? ⟨w.heap.size, j, none⟩ = some (.int .u8 ((s[j]'(by omega)).toNat : Int))) ∧ Below w.heap.size w (w.alloc (.cells (bytesRow (s.extract 0 k) c) e m)).drew := by
  refine ⟨fun j hj => ?_, ((Below.refl _ _).alloc (Nat.le_refl _) _).drew⟩
  show (w.alloc (.cells (bytesRow (s.extract 0 k) c) e m)).cell? _ = _
  have hsz : j < (s.extract 0 k).size := by simp; omega
  rw [World.cell?_alloc_mark, bytesRow_at (s.extract 0 k) c j hsz]
  have := extract_at s k j hsz (by omega)
  rw [← this]
  rfl

theorem at0_set1 (W : World) (b : Nat) (v : Value) : (W.setCell ⟨b, 1, none⟩ v).cell? ⟨b, 0, none⟩ = W.cell? ⟨b, 0, none⟩ :=
  World.cell?_setCell_other _ _ _ _ (by simp)
theorem at1_set0 (W : World) (b : Nat) (v : Value) : (W.setCell ⟨b, 0, none⟩ v).cell? ⟨b, 1, none⟩ = W.cell? ⟨b, 1, none⟩ :=
  World.cell?_setCell_other _ _ _ _ (by simp)

/-- What 'number' leaves where it does not read. -/
def NumNo (b : Nat) (rest : ByteArray) (w : World) (e : Ending) (w' : World) : Prop :=
  e = .returned (.int .i64 0) ∧ w'.cell? ⟨b, 0, none⟩ = some (.string rest) ∧ w'.cell? ⟨b, 1, none⟩ = some (.bool false) ∧ Below b w w'
/-- Does the value lie in the range? -/
def inR (least most n : Int) : Bool := decide (least ≤ n) && decide (n ≤ most)
/-- What 'number' leaves where it reads. -/
def NumYes (b : Nat) (rest : ByteArray) (k : Nat) (least most : Int) (w : World) (e : Ending) (w' : World) : Prop :=
  e = .returned (.int .i64 (wrap64 (val (rest.data.toList.take k)))) ∧ w'.cell? ⟨b, 0, none⟩ = some (.string (rest.extract k rest.size)) ∧
  w'.cell? ⟨b, 1, none⟩ = some (.bool (inR least most (wrap64 (val (rest.data.toList.take k))))) ∧ Below b w w'

theorem no_of {b : Nat} {rest : ByteArray} {ok : Bool} {w W : World} (hb : b < w.heap.size) (hbel : Below w.heap.size w W) (c0 : W.cell? ⟨b, 0, none⟩ = some (.string rest)) (c1 : W.cell? ⟨b, 1, none⟩ = some (.bool ok)) :
    NumNo b rest w (.returned (.int .i64 0)) (W.setCell ⟨b, 1, none⟩ (.bool false)) := by
  refine ⟨rfl, ?_, ?_, (hbel.mono (Nat.le_of_lt hb)).setCell (p := ⟨b, _, none⟩) (Nat.le_refl _) _⟩
  · rw [at0_set1]; exact c0
  · exact World.cell?_setCell_same _ _ _ c1

theorem yes_of {b : Nat} {rest : ByteArray} {k : Nat} {least most : Int} {w W : World} (hb : b < w.heap.size) (hbel : Below w.heap.size w W) (c0 : W.cell? ⟨b, 0, none⟩ = some (.string rest)) (c1 : W.cell? ⟨b, 1, none⟩ = some (.bool true))
    (h1 : least ≤ wrap64 (val (rest.data.toList.take k))) (h2 : wrap64 (val (rest.data.toList.take k)) ≤ most) :
    NumYes b rest k least most w (.returned (.int .i64 (wrap64 (val (rest.data.toList.take k))))) (W.setCell ⟨b, 0, none⟩ (.string (rest.extract k rest.size))) := by
  have hi : inR least most (wrap64 (val (rest.data.toList.take k))) = true := by simp [inR, h1, h2]
  refine ⟨rfl, ?_, ?_, (hbel.mono (Nat.le_of_lt hb)).setCell (p := ⟨b, _, none⟩) (Nat.le_refl _) _⟩
  · exact World.cell?_setCell_same _ _ _ c0
  · rw [at1_set0, c1, hi]
theorem off_of {b : Nat} {rest : ByteArray} {k : Nat} {least most : Int} {w W : World} (hb : b < w.heap.size) (hbel : Below w.heap.size w W) (c0 : W.cell? ⟨b, 0, none⟩ = some (.string rest)) (c1 : W.cell? ⟨b, 1, none⟩ = some (.bool true))
    (h : wrap64 (val (rest.data.toList.take k)) < least ∨ most < wrap64 (val (rest.data.toList.take k))) :
    NumYes b rest k least most w (.returned (.int .i64 (wrap64 (val (rest.data.toList.take k))))) ((W.setCell ⟨b, 0, none⟩ (.string (rest.extract k rest.size))).setCell ⟨b, 1, none⟩ (.bool false)) := by
  have hi : inR least most (wrap64 (val (rest.data.toList.take k))) = false := by simp [inR]; omega
  refine ⟨rfl, ?_, ?_, ((hbel.mono (Nat.le_of_lt hb)).setCell (p := ⟨b, _, none⟩) (Nat.le_refl _) _).setCell (p := ⟨b, _, none⟩) (Nat.le_refl _) _⟩
  · rw [at0_set1]; exact World.cell?_setCell_same _ _ _ c0
  · rw [hi]; exact World.cell?_setCell_same _ _ _ ((at1_set0 _ _ _).trans c1)

theorem number_bad (rest : ByteArray) (ok : Bool) (digits least most : Int) (b : Nat) (w : World) (h : ok = false ∨ (rest.size : Int) < digits) (hb : b < w.heap.size)
    (c0 : w.cell? ⟨b, 0, none⟩ = some (.string rest)) (c1 : w.cell? ⟨b, 1, none⟩ = some (.bool ok)) (f1 : w.frozen? ⟨b, 1, none⟩ = false) :
    Calls Try.prog 22 #[.pointer (some ⟨b, 0, none⟩), .int .i64 digits, .int .i64 least, .int .i64 most] w (NumNo b rest w) := by
  cases ok with
  | false =>
    clear h
    go_enter Try.func22, Try.ntmps22
    go_wp2
    go_ret
    exact no_of hb (Below.refl _ _) c0 c1
  | true =>
    have h' : (rest.size : Int) < digits := by simpa using h
    clear h
    go_enter Try.func22, Try.ntmps22
    go_wp2
    go_ret
    exact no_of hb (Below.refl _ _) c0 c1

set_option maxHeartbeats 400000 in
theorem number_loop (rest : ByteArray) (k : Nat) (least most : Int) (b : Nat) (w : World) (hs : rest.size ≤ 65536) (h : k ≤ rest.size) (hb : b < w.heap.size)
    (c0 : w.cell? ⟨b, 0, none⟩ = some (.string rest)) (c1 : w.cell? ⟨b, 1, none⟩ = some (.bool true)) (f0 : w.frozen? ⟨b, 0, none⟩ = false) (f1 : w.frozen? ⟨b, 1, none⟩ = false) :
    Calls Try.prog 22 #[.pointer (some ⟨b, 0, none⟩), .int .i64 k, .int .i64 least, .int .i64 most] w fun e w' =>
      (allD (rest.data.toList.take k) = false ∧ NumNo b rest w e w') ∨ (allD (rest.data.toList.take k) = true ∧ NumYes b rest k least most w e w') := by
  have hcv := fun w s => run_bytes_of_string (P := Try.prog) w 9 42 5 s Try.underlying9 Try.underlying42 Try.underlying5
  have hnk : ¬ rest.size < k := by omega
  go_enter Try.func22, Try.ntmps22
  go_wp2
  clear hcv
  have hB := bytes_world w rest k (grownCap w k 0 5) 5 ((bytesRow (rest.extract 0 k) (grownCap w k 0 5)).size, (bytesRow (rest.extract 0 k) (grownCap w k 0 5)).size + 1) h
  generalize (w.alloc (Obj.cells (bytesRow (rest.extract 0 k) (grownCap w k 0 5)) 5 ((bytesRow (rest.extract 0 k) (grownCap w k 0 5)).size, (bytesRow (rest.extract 0 k) (grownCap w k 0 5)).size + 1))).drew = W1 at hB ⊢
  obtain ⟨hrow, hbel⟩ := hB
  have hc0 : W1.cell? ⟨b, 0, none⟩ = some (.string rest) := (hbel.cell hb).trans c0
  have hc1 : W1.cell? ⟨b, 1, none⟩ = some (.bool true) := (hbel.cell hb).trans c1
  have hf0 : W1.frozen? ⟨b, 0, none⟩ = false := (hbel.frozen hb).trans f0
  have hf1 : W1.frozen? ⟨b, 1, none⟩ = false := (hbel.frozen hb).trans f1
  clear c0 c1 f0 f1
  have HR : Hid (∀ j (hj : j < k), W1.cell? ⟨w.heap.size, j, none⟩ = some (.int .u8 ((rest[j]'(by omega)).toNat : Int))) := hrow
  clear hrow
  have HB : Hid (Below w.heap.size w W1) := hbel
  clear hbel
  go_loop [9, 37] (fun n i => ∃ j : Nat, j ≤ k ∧ i = .int .i64 j ∧ allD (rest.data.toList.take j) = true ∧ n = .int .i64 (wrap64 (val (rest.data.toList.take j)))) (fun _ i => k - (intOf i).toNat)
  case atStart => exact ⟨0, Nat.zero_le _, rfl, rfl, by simp [val, wrap64]⟩
  case round =>
    obtain ⟨j, hj, rfl, hall, rfl⟩ := hrel
    have HA : Hid (allD (rest.data.toList.take j) = true) := hall
    clear hall
    by_cases hlt : j < k
    · have hjs : j < rest.size := by omega
      have hcell := HR.out j hlt
      by_cases hd : 48 ≤ (rest[j].toNat : Int) ∧ (rest[j].toNat : Int) ≤ 57
      · obtain ⟨hd1, hd2⟩ := hd
        go_wp2
        go_round
        case rel => exact ⟨j + 1, by omega, by go_num, by rw [take_snoc rest j hjs, allD_snoc, HA.out, (isD_iff _).2 ⟨hd1, hd2⟩]; rfl, by rw [num_step, take_snoc rest j hjs]⟩
        case measure => simp [intOf]; omega
      · have hd' : isD (rest[j].toNat : Int) = false := by rw [isD_no]; omega
        have hall : allD (rest.data.toList.take k) = false := by
          have hsp : rest.data.toList.take k = rest.data.toList.take (j + 1) ++ (rest.data.toList.take k).drop (j + 1) := by
            conv => lhs; rw [← List.take_append_drop (j + 1) (rest.data.toList.take k)]
            rw [List.take_take, Nat.min_eq_left (by omega)]
          rw [hsp, allD_append, take_snoc rest j hjs, allD_snoc, hd']
          simp
        have HF : Hid (allD (rest.data.toList.take k) = false) := hall
        clear hall hd'
        by_cases hd1 : (rest[j].toNat : Int) < 48
        · clear hd
          go_wp2
          go_ret
          exact .inl ⟨HF.out, no_of hb HB.out hc0 hc1⟩
        · have hd2 : 57 < (rest[j].toNat : Int) := by omega
          clear hd
          go_wp2
          go_ret
          exact .inl ⟨HF.out, no_of hb HB.out hc0 hc1⟩
    · obtain rfl : j = k := by omega
      by_cases h1 : wrap64 (val (rest.data.toList.take j)) < least
      · go_wp2
        go_ret
        exact .inr ⟨HA.out, off_of hb HB.out hc0 hc1 (.inl h1)⟩
      · by_cases h2 : most < wrap64 (val (rest.data.toList.take j))
        · go_wp2
          go_ret
          exact .inr ⟨HA.out, off_of hb HB.out hc0 hc1 (.inr h2)⟩
        · go_wp2
          go_ret
          exact .inr ⟨HA.out, yes_of hb HB.out hc0 hc1 (by omega) (by omega)⟩
end Go.Proofs.Qxb6617931a.Walks
