/- Walks over seat b6618000a: zzJoin by a contract; the two size checks. -/
import Derived.Test.Qxb6618000aWalks
import Derived.Laws.CopyOwn
import Derived.Deep.OwnRows
namespace Go.Proofs.Qxb6618000a.Walks
open Go.RowKit
open Go.Proofs.Qxb6618000a.Plain

theorem info5 : (Try.prog.info? 5).map (fun i => (i.zero, i.size, i.bytes)) = some (some (.int .u8 0), 1, 1) := by kernel_rfl
theorem size5 : (Try.prog.info? 5).map (·.size) = some 1 := by kernel_rfl

theorem zz15 (a0 a1 : Option Addr) (n0 c0 n1 c1 : Nat) (s : Int) (h0 : n0 ≤ maxLen) (h1 : n1 ≤ maxLen) (w : World) :
    Calls Try.prog 15 #[.slice a0 n0 c0, .slice a1 n1 c1, .int .i64 s] w fun e w' => e = .returned (.bool (decide (n0 + n1 ≤ 1048576))) ∧ w' = w := by
  unfold maxLen at h0 h1
  by_cases h : n0 + n1 ≤ 1048576
  · have g0 : n0 ≤ 1048576 := by omega
    have g1 : n1 ≤ 1048576 := by omega
    go_enter Try.func15, Try.ntmps15
    go_wp2
    go_ret
    exact ⟨by simp [h], rfl⟩
  · by_cases g0 : n0 ≤ 1048576
    · by_cases g1 : n1 ≤ 1048576
      · go_enter Try.func15, Try.ntmps15
        go_wp2
        go_ret
        exact ⟨by simp [h], rfl⟩
      · go_enter Try.func15, Try.ntmps15
        go_wp2
        go_ret
        exact ⟨by simp [h], rfl⟩
    · go_enter Try.func15, Try.ntmps15
      go_wp2
      go_ret
      exact ⟨by simp [h], rfl⟩

/-- What is known of a slice of bytes that is only read: its first n cells. -/
def Src (w : World) (a : Option Addr) (n : Nat) (f : Nat → Int) : Prop := 0 < n → ∃ ad, a = some ad ∧ ∀ i, i < n → w.cell? (ad.add i) = some (.int .u8 (f i))

def cellsOf (f : Nat → Int) (n : Nat) : List Value := (List.range n).map fun i => .int .u8 (f i)
theorem cellsOf_len (f : Nat → Int) (n : Nat) : (cellsOf f n).length = n := by simp [cellsOf]
theorem cellsOf_at (f : Nat → Int) (n j : Nat) (v : Value) (h : (cellsOf f n)[j]? = some v) : j < n ∧ v = .int .u8 (f j) := by
  have hj : j < n := by
    have := (List.getElem?_eq_some_iff.1 h).1
    simpa [cellsOf] using this
  simp [cellsOf, List.getElem?_range hj] at h
  exact ⟨hj, h.symm⟩
theorem cellsOf_one (f : Nat → Int) (n : Nat) : ∀ v ∈ cellsOf f n, v.oneCell' = true := by
  intro v hv
  simp [cellsOf] at hv
  obtain ⟨i, _, rfl⟩ := hv
  rfl

theorem new_block (w : World) (o : Obj) : (w.alloc o).heap[w.heap.size]? = some o := by
  show (w.heap.push o)[w.heap.size]? = _
  simp
theorem Src.carry {w w' : World} {a : Option Addr} {n : Nat} {f : Nat → Int} (h : Src w a n f) (hb : Below w.heap.size w w') : Src w' a n f := by
  intro hn
  obtain ⟨ad, rfl, hc⟩ := h hn
  refine ⟨ad, rfl, fun i hi => ?_⟩
  have h1 := hc i hi
  have hlt : (ad.add i).block < w.heap.size := by
    rcases Nat.lt_or_ge (ad.add i).block w.heap.size with h | h
    · exact h
    · simp [World.cell?, Array.getElem?_eq_none h] at h1
  rw [hb.cell hlt]; exact h1
theorem Src.pos {w : World} {a : Option Addr} {n : Nat} {f : Nat → Int} (h : Src w a n f) {dp : Option Addr} {g off : Nat} (hd : 0 < n → dp = some ⟨g, off, none⟩) :
    0 < (cellsOf f n).length → dp = some ⟨g, off, none⟩ ∧ ∃ ad, a = some ad ∧ ∀ j v, (cellsOf f n)[j]? = some v → w.cell? (ad.add j) = some v := by
  rw [cellsOf_len]
  intro hn
  obtain ⟨ad, rfl, hc⟩ := h hn
  refine ⟨hd hn, ad, rfl, fun j v hj => ?_⟩
  obtain ⟨hjn, rfl⟩ := cellsOf_at f n j v hj
  exact hc j hjn

/-- x followed by y. -/
def joinF (nx : Nat) (fx fy : Nat → Int) (i : Nat) : Int := if i < nx then fx i else fy (i - nx)
/-- What zzJoin leaves. -/
def Joined (nx ny : Nat) (fx fy : Nat → Int) (w : World) (e : Ending) (w' : World) : Prop :=
  e = .returned (.slice (some ⟨w.heap.size, 0, none⟩) (nx + ny) (nx + ny)) ∧ (∀ i, i < nx + ny → w'.cell? ⟨w.heap.size, 0 + i, none⟩ = some (.int .u8 (joinF nx fx fy i))) ∧ w.heap.size < w'.heap.size ∧ Below w.heap.size w w'
theorem splice2 (Z : List Value) (X Y : List Value) (n m : Nat) (hX : X.length = n) (hY : Y.length = m) (hZ : Z.length = n + m) : splice (splice Z 0 X) n Y = X ++ Y := by
  unfold splice
  simp
  rw [List.take_append_of_le_length (by omega), List.take_of_length_le (by omega), List.drop_eq_nil_of_le (by simp; omega)]
  simp
theorem joined_of {nx ny : Nat} {fx fy : Nat → Int} {w w' : World} {Z : List Value} (hZ : Z.length = nx + ny) (hg : w'.heap[w.heap.size]? = some (.cells (splice (splice Z 0 (cellsOf fx nx)) nx (cellsOf fy ny)).toArray 5 (0, 0))) (hb : Below w.heap.size w w') :
    Joined nx ny fx fy w (.returned (.slice (some ⟨w.heap.size, 0, none⟩) (nx + ny) (nx + ny))) w' := by
  rw [splice2 Z _ _ nx ny (cellsOf_len _ _) (cellsOf_len _ _) hZ] at hg
  refine ⟨rfl, fun i hi => ?_, (Array.getElem?_eq_some_iff.1 hg).1, hb⟩
  simp only [World.cell?, hg, Nat.zero_add]
  by_cases h : i < nx
  · rw [if_neg (by simp), List.getElem?_toArray, List.getElem?_append_left (by rw [cellsOf_len]; exact h)]
    simp [cellsOf, joinF, h]
  · rw [if_neg (by simp), List.getElem?_toArray, List.getElem?_append_right (by rw [cellsOf_len]; omega), cellsOf_len]
    have : i - nx < ny := by omega
    simp [cellsOf, joinF, h, this]

theorem join_any (ax : Option Addr) (nx cx : Nat) (ay : Option Addr) (ny cy : Nat) (fx fy : Nat → Int) (hx : nx ≤ 1048576) (hy : ny ≤ 1048576) (w : World) (sx : Src w ax nx fx) (sy : Src w ay ny fy) :
    Calls Try.prog 13 #[.slice ax nx cx, .slice ay ny cy] w fun e w' => Joined nx ny fx fy w e w' := by
  have hmk := fun w => run_make_row' (P := Try.prog) 22 5 (.int .u8 0) 1 Try.underlying22 info5 rfl .i64 .i64 (nx + ny) (by omega) (by omega) w
  have ec : ((nx + ny : Nat) : Int) = (nx : Int) + ny := by omega
  rw [ec] at hmk
  clear ec
  obtain ⟨Z, hZ, hZl⟩ : ∃ Z : List Value, madeCells #[.int .u8 0] (nx + ny) = Z.toArray ∧ Z.length = nx + ny := ⟨(madeCells #[.int .u8 0] (nx + ny)).toList, by simp, by simp [size_madeCells]⟩
  rw [hZ] at hmk
  have HZ : Hid (Z.length = nx + ny) := hZl
  clear hZ hZl
  have HX : Hid (Src (w.alloc (.cells Z.toArray 5)) ax nx fx) := sx.carry ((Below.refl _ _).alloc (Nat.le_refl _) _)
  have HY : Hid (Src w ay ny fy) := sy
  clear sx sy
  go_enter Try.func13, Try.ntmps13
  go_wp2_with (refine wpList_copy_splice rfl (.tmp 12) (.tmp 13) 22 22 rfl 5 Try.underlying22 size5 _ _ _ _ _ _ rfl rfl w.heap.size 0 Z 5 (new_block _ _) (cellsOf fx nx) ?hn (HX.out.pos (fun _ => rfl)) ?hfit (cellsOf_one _ _) w.heap.size w ((Below.refl _ _).alloc (Nat.le_refl _) _) (Nat.le_refl _) ?_)
  case hn => rw [cellsOf_len]; show nx = min nx (nx + ny); omega
  case hfit => rw [cellsOf_len, HZ.out]; omega
  intro w2 HG2 hB2
  clear hmk HX
  have HY2 : Hid (Src w2 ay ny fy) := HY.out.carry hB2
  clear HY
  by_cases hny : ny = 0
  · subst hny
    go_wp2_with (refine wpList_copy_splice rfl (.tmp 18) (.tmp 19) 22 22 rfl 5 Try.underlying22 size5 _ _ _ _ _ _ rfl rfl w.heap.size nx _ 5 HG2.out (cellsOf fy 0) rfl (HY2.out.pos (fun h => absurd h (Nat.lt_irrefl 0))) ?hfit (cellsOf_one _ _) w.heap.size w hB2 (Nat.le_refl _) ?_)
    case hfit => rw [cellsOf_len, length_splice _ _ _ (by rw [cellsOf_len, HZ.out]; omega), HZ.out]; omega
    intro w3 HG3 hB3
    go_wp2
    go_ret
    exact joined_of HZ.out HG3.out hB3
  · go_wp2_with (refine wpList_copy_splice rfl (.tmp 18) (.tmp 19) 22 22 rfl 5 Try.underlying22 size5 _ _ _ _ _ _ rfl rfl w.heap.size nx _ 5 HG2.out (cellsOf fy ny) ?hn (HY2.out.pos (fun _ => rfl)) ?hfit (cellsOf_one _ _) w.heap.size w hB2 (Nat.le_refl _) ?_)
    case hn => rw [cellsOf_len]; show ny = min ny ny; omega
    case hfit => rw [cellsOf_len, length_splice _ _ _ (by rw [cellsOf_len, HZ.out]; omega), HZ.out]; omega
    intro w3 HG3 hB3
    go_wp2
    go_ret
    exact joined_of HZ.out HG3.out hB3
end Go.Proofs.Qxb6618000a.Walks
