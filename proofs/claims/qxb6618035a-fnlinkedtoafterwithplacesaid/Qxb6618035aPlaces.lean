/- Walks over seat b6618035a: cloneInts, withPlace, ZZwithPlace by contracts. -/
import Derived.Test.Qxb6618035aWalks
namespace Go.Proofs.Qxb6618035a.Walks
open Go.RowKit
open Go.Proofs.Qxb6618035a.Plain

/-- The slice (a, n, c) is the call's own (blocks from B on) and holds the list l. -/
def Own (w : World) (B : Nat) (a : Option Addr) (n c : Nat) (l : List Int) : Prop := w.ownsRow B 3 1 (.slice a n c) n (l.map (Value.int .i64))
theorem Own.len {w : World} {B : Nat} {a : Option Addr} {n c : Nat} {l : List Int} (h : Own w B a n c l) : l.length = n := by simpa using h.1
theorem Own.nil (w : World) (B : Nat) : Own w B none 0 0 [] := World.ownsRow_nil w B 3 1
theorem own_shape {w : World} {B n : Nat} {v : Value} {l : List Int} (h : w.ownsRow B 3 1 v n (l.map (Value.int .i64))) : ∃ a c, v = .slice a n c ∧ Own w B a n c l := by
  rcases h.2 with ⟨rfl, rfl⟩ | ⟨g, cap, cur, rfl, r⟩
  · exact ⟨none, 0, rfl, h⟩
  · exact ⟨_, cap, rfl, h⟩
theorem Own.row {w : World} {B : Nat} {a : Option Addr} {n c : Nat} {l : List Int} (h : Own w B a n c l) : Row w a n (fn l) := by
  intro hn
  have hl := h.len
  rcases h.2 with ⟨_, h0⟩ | ⟨g, cap, cur, hv, r⟩
  · omega
  · simp only [Value.slice.injEq, true_and] at hv
    obtain ⟨rfl, rfl⟩ := hv
    refine ⟨g, 0, rfl, fun i hi => ?_⟩
    rw [Nat.zero_add, h.cellAt i (by omega)]
    simp [fn, show i < l.length by omega]
theorem Own.kept {w w' : World} {B : Nat} {a : Option Addr} {n c : Nat} {l : List Int} (h : Own w B a n c l) (hb : Below w.heap.size w w') : Own w' B a n c l := by
  refine World.ownsRow.kept (row := none) h ⟨hb.os, hb.tape, hb.output, hb.size, fun k hk _ => hb.block k hk⟩ ?_
  cases (Value.slice a n c).ownBlock <;> simp

/-- What cloneInts lays, after k rounds. -/
def cl (f : Nat → Int) (n k : Nat) : List Value := ((lst f k).map (Value.int .i64)) ++ List.replicate (n - k) (.int .i64 0)
theorem cl_len (f : Nat → Int) (n k : Nat) (h : k ≤ n) : (cl f n k).length = n := by simp [cl, lst_len]; omega
theorem cl_start (f : Nat → Int) (n : Nat) : cl f n 0 = List.replicate n (.int .i64 0) := by simp [cl, lst_zero]
theorem cl_end (f : Nat → Int) (n : Nat) : cl f n n = (lst f n).map (Value.int .i64) := by simp [cl]
theorem cl_step (f : Nat → Int) (n k : Nat) (h : k < n) : (cl f n k).set k (.int .i64 (f k)) = cl f n (k + 1) := by
  unfold cl
  have e : n - k = (n - (k + 1)) + 1 := by omega
  rw [e, List.replicate_succ, List.set_append_right _ _ (by simp [lst_len]), lst_succ]
  simp [lst_len]

/-- What cloneInts leaves. -/
def Cloned (n : Nat) (f : Nat → Int) (w : World) (e : Ending) (w' : World) : Prop := ∃ a c, e = .returned (.slice a n c) ∧ Own w' w.heap.size a n c (lst f n) ∧ Below w.heap.size w w'

theorem clone_nil (f : Nat → Int) (w : World) : Calls Try.prog 7 #[.slice none 0 0] w (Cloned 0 f w) := by
  have hnil := fun w => Lib.run_eql_slice_nil (P := Try.prog) w 22 3 none 0 0 0 0 Try.underlying22
  go_enter Try.func7, Try.ntmps7
  go_wp2
  go_ret
  exact ⟨none, 0, rfl, Own.nil _ _, Below.refl _ _⟩

theorem clone_some (ad : Addr) (n c : Nat) (f : Nat → Int) (hn : n ≤ 1048576) (w : World) (h : Row w (some ad) n f) : Calls Try.prog 7 #[.slice (some ad) n c] w (Cloned n f w) := by
  have hnil := fun w => Lib.run_eql_slice_nil (P := Try.prog) w 22 3 (some ad) n c 0 0 Try.underlying22
  have hmk := fun w => run_make_row' (P := Try.prog) 22 3 (.int .i64 0) 8 Try.underlying22 info3 rfl .i64 .i64 n (by omega) (by omega) w
  obtain ⟨Z, hZ⟩ : ∃ Z : Array Value, madeCells #[.int .i64 0] n = Z := ⟨_, rfl⟩
  rw [hZ] at hmk
  have HO : Hid ((w.alloc (.cells Z 3)).ownsRow w.heap.size 3 1 (.slice (some ⟨w.heap.size, 0, none⟩) n n) n (cl f n 0)) := by
    show World.ownsRow _ _ _ _ _ _ _
    have := World.ownsRow_lit (base := w.heap.size) (e := 3) (size := 1) w Z n (Nat.le_refl _) (by unfold maxLen; omega) (by rw [← hZ, size_madeCells]; omega)
    rw [cl_start, ← toList_madeCells_one, hZ]
    exact this
  clear hZ
  by_cases h0 : n = 0
  · subst h0
    have hmk0 : ∀ w, (Instr.makeSlice 22 (.int .i64 0) (.int .i64 0)).run Try.prog w = .ok (.slice (some ⟨w.heap.size, 0, none⟩) 0 0) (w.alloc (.cells Z 3)) := hmk
    clear hmk
    go_enter Try.func7, Try.ntmps7
    go_wp2
    refine wp_loop_rounds 1 ?_
    rw [rounds_succ]
    go_wp2
    go_ret
    exact ⟨_, _, rfl, by have := HO.out; rw [cl_end] at this; exact this, (Below.refl _ _).alloc (Nat.le_refl _) _⟩
  · obtain ⟨b, off, hab, hc⟩ := h (by omega)
    simp only [Option.some.injEq] at hab
    subst hab
    have HC : Hid (∀ i, i < n → w.cell? ⟨b, off + i, none⟩ = some (.int .i64 (f i))) := hc
    have hbl : b < w.heap.size := cell_lt (hc 0 (by omega))
    clear hc h
    go_enter Try.func7, Try.ntmps7
    go_wp2
    clear hmk hnil
    go_loopw [4] (fun x wr => ∃ i : Nat, i ≤ n ∧ x = .int .i64 i ∧ wr.ownsRow w.heap.size 3 1 (.slice (some ⟨w.heap.size, 0, none⟩) n n) n (cl f n i) ∧ Below w.heap.size w wr) (fun x _ => n - (intOf x).toNat)
    case atStart => exact ⟨0, Nat.zero_le _, rfl, HO.out, (Below.refl _ _).alloc (Nat.le_refl _) _⟩
    case round =>
      obtain ⟨i, hi, rfl, hown, hbel⟩ := hrel
      by_cases hlt : i < n
      · have g1 : wr.cell? ⟨b, off + i, none⟩ = some (.int .i64 (f i)) := (hbel.cell (p := ⟨b, off + i, none⟩) hbl).trans (HC.out i hlt)
        obtain ⟨u, g2⟩ : ∃ u, wr.cell? ⟨w.heap.size, i, none⟩ = some u := by
          rw [hown.cellAt i (by omega)]
          exact ⟨_, List.getElem?_eq_getElem (by rw [cl_len f n i hi]; exact hlt)⟩
        have g3 : wr.frozen? ⟨w.heap.size, i, none⟩ = false := hown.frozenAt i
        have HN : Hid ((wr.setCell ⟨w.heap.size, i, none⟩ (.int .i64 (f i))).ownsRow w.heap.size 3 1 (.slice (some ⟨w.heap.size, 0, none⟩) n n) n (cl f n (i + 1))) := by
          show World.ownsRow _ _ _ _ _ _ _
          rw [← cl_step f n i hlt]; exact (hown.stored i _).1
        have HB : Hid (Below w.heap.size w wr) := hbel
        clear hown hbel
        go_wp2
        go_roundw
        case rel => exact ⟨i + 1, by omega, by go_num, HN.out, HB.out.setCell (p := ⟨w.heap.size, i, none⟩) (Nat.le_refl _) _⟩
        case measure => simp [intOf]; omega
      · obtain rfl : i = n := by omega
        go_wp2
        go_ret
        exact ⟨_, _, rfl, by rw [cl_end] at hown; exact hown, hbel⟩

theorem clone_any (a : Option Addr) (n c : Nat) (f : Nat → Int) (hn : n ≤ 1048576) (hnil : a = none → n = 0 ∧ c = 0) (w : World) (h : Row w a n f) : Calls Try.prog 7 #[.slice a n c] w (Cloned n f w) := by
  cases a with
  | none => obtain ⟨rfl, rfl⟩ := hnil rfl; exact clone_nil f w
  | some ad => exact clone_some ad n c f hn w h

/-- withPlace where p is there already: the slice itself. -/
theorem wp_has (a : Option Addr) (n c : Nat) (f : Nat → Int) (p : Int) (hn : n ≤ 1048576) (w : World) (h : Row w a n f) (hp : p ∈ lst f n) :
    Calls Try.prog 14 #[.slice a n c, .int .i64 p] w fun e w' => e = .returned (.slice a n c) ∧ w' = w := by
  have HP : Hid (p ∈ lst f n) := hp
  clear hp
  by_cases h0 : n = 0
  · subst h0
    exact absurd HP.out (by simp [lst_zero])
  · obtain ⟨b, off, rfl, hc⟩ := h (by omega)
    have HC : Hid (∀ i, i < n → w.cell? ⟨b, off + i, none⟩ = some (.int .i64 (f i))) := hc
    clear hc h
    go_enter Try.func14, Try.ntmps14
    go_wp2
    go_loop [9] (fun x => ∃ i : Nat, i ≤ n ∧ x = .int .i64 i ∧ ¬ p ∈ lst f i) (fun x => n - (intOf x).toNat)
    case atStart => exact ⟨0, Nat.zero_le _, rfl, by simp [lst_zero]⟩
    case round =>
      obtain ⟨i, hi, rfl, hno⟩ := hrel
      have HN : Hid (¬ p ∈ lst f i) := hno
      clear hno
      by_cases hlt : i < n
      · have hcell := HC.out i hlt
        by_cases hv : f i = p
        · have hb : (f i == p) = true := by simp [hv]
          clear hv
          go_wp2
          go_ret
          exact ⟨rfl, rfl⟩
        · have hb : (f i == p) = false := by simp [hv]
          go_wp2
          go_round
          case rel => exact ⟨i + 1, by omega, by go_num, by
            rw [lst_succ, List.mem_append, List.mem_singleton]
            rintro (h | h)
            · exact HN.out h
            · exact hv h.symm⟩
          case measure => simp [intOf]; omega
      · obtain rfl : i = n := by omega
        exact absurd HP.out HN.out

/-- What withPlace leaves where p is new. -/
def Added (B : Nat) (a : Option Addr) (n c : Nat) (l : List Int) (p : Int) (w : World) (e : Ending) (w' : World) : Prop :=
  ∃ a' c', e = .returned (.slice a' (n + 1) c') ∧ Own w' B a' (n + 1) c' (l ++ [p]) ∧ w.grownBy w' (Value.slice a n c).ownBlock

theorem grown_trans {w w1 w2 : World} {row : Option Nat} (h1 : w.grownBy w1 row) (h2 : w1.grownBy w2 row) : w.grownBy w2 row :=
  ⟨h2.os.trans h1.os, h2.tape.trans h1.tape, h2.output.trans h1.output, Nat.le_trans h1.size h2.size, fun k hk hr => (h2.block k (Nat.lt_of_lt_of_le hk h1.size) hr).trans (h1.block k hk hr)⟩

theorem added_of {B : Nat} {a : Option Addr} {n c : Nat} {l : List Int} {p : Int} {w w1 : World} {v : Value} {o : Obj} (h : w1.ownsRow B 3 1 v (n + 1) (l.map (Value.int .i64) ++ [.int .i64 p])) (hg : (w.alloc o).grownBy w1 (Value.slice a n c).ownBlock) :
    Added B a n c l p w (.returned v) w1 := by
  have e : l.map (Value.int .i64) ++ [.int .i64 p] = (l ++ [p]).map (Value.int .i64) := by simp
  rw [e] at h
  obtain ⟨a', c', rfl, ho⟩ := own_shape h
  exact ⟨a', c', rfl, ho, grown_trans (World.grownBy_alloc w o _) hg⟩
theorem one_int (p : Int) : ∀ u ∈ [Value.int .i64 p], u.oneCell' = true := by
  intro u hu; simp at hu; subst hu; rfl

theorem wp_new (B : Nat) (a : Option Addr) (n c : Nat) (l : List Int) (p : Int) (hn : n ≤ 1048576) (w : World) (hB : B ≤ w.heap.size) (h : Own w B a n c l) (hp : ¬ p ∈ l) :
    Calls Try.prog 14 #[.slice a n c, .int .i64 p] w (Added B a n c l p w) := by
  obtain ⟨i0, hi, hz0, hz1, hz2⟩ := info_parts info3
  have HH : Hid (Own w B a n c l) := h
  have hrow := h.row
  have hlen := h.len
  have HP : Hid (¬ p ∈ l) := hp
  clear hp h
  by_cases h0 : n = 0
  · subst h0
    clear hrow
    go_enter Try.func14, Try.ntmps14
    go_wp2
    refine wp_loop_rounds 1 ?_
    rw [rounds_succ]
    go_wp2_with (at_builtin; refine wpList_append_own _ rfl _ _ 22 rfl B 3 i0 (.int .i64 0) 1 8 Try.underlying22 hi hz0 hz1 hz2 rfl (by decide) _ _ _ rfl (World.ownsRow.alloc HH.out _) ⟨w.heap.size, 0, none⟩ 1 1 [.int .i64 p] rfl rfl (cell_one_new _ _ _) (one_int p) ?c3 ?c4 ?c5 ?_)
    case c3 => unfold maxLen; omega
    case c4 => omega
    case c5 => simp; omega
    intro v' w1 hown' hgrow _
    have HO : Hid _ := hown'
    have HG : Hid _ := hgrow
    clear hown' hgrow
    go_wp2
    go_ret
    exact added_of HO.out HG.out
  · obtain ⟨b, off, rfl, hc⟩ := hrow (by omega)
    have HC : Hid (∀ i, i < n → w.cell? ⟨b, off + i, none⟩ = some (.int .i64 (fn l i))) := hc
    have HL : Hid (l.length = n) := hlen
    clear hc hrow hlen
    go_enter Try.func14, Try.ntmps14
    go_wp2
    go_loop [9] (fun x => ∃ i : Nat, i ≤ n ∧ x = .int .i64 i) (fun x => n - (intOf x).toNat)
    case atStart => exact ⟨0, Nat.zero_le _, rfl⟩
    case round =>
      obtain ⟨i, hi', rfl⟩ := hrel
      by_cases hlt : i < n
      · have hcell := HC.out i hlt
        have hb : (fn l i == p) = false := by
          rw [beq_eq_false_iff_ne]
          intro e
          exact HP.out ((fn_mem l p).2 ⟨i, by rw [HL.out]; exact hlt, e⟩)
        go_wp2
        go_round
        case rel => exact ⟨i + 1, by omega, by go_num⟩
        case measure => simp [intOf]; omega
      · go_wp2_with (at_builtin; refine wpList_append_own _ rfl _ _ 22 rfl B 3 i0 (.int .i64 0) 1 8 Try.underlying22 hi hz0 hz1 hz2 rfl (by decide) _ _ _ rfl (World.ownsRow.alloc HH.out _) ⟨w.heap.size, 0, none⟩ 1 1 [.int .i64 p] rfl rfl (cell_one_new _ _ _) (one_int p) ?c3 ?c4 ?c5 ?_)
        case c3 => unfold maxLen; omega
        case c4 => omega
        case c5 => first | omega | (simp; omega)
        intro v' w1 hown' hgrow _
        have HO : Hid _ := hown'
        have HG : Hid _ := hgrow
        clear hown' hgrow
        go_wp2
        go_ret
        exact added_of HO.out HG.out

/-- ZZwithPlace hands on. -/
theorem zzwp_has (a : Option Addr) (n c : Nat) (f : Nat → Int) (p : Int) (hn : n ≤ 1048576) (w : World) (h : Row w a n f) (hp : p ∈ lst f n) :
    Calls Try.prog 8 #[.slice a n c, .int .i64 p] w fun e w' => e = .returned (.slice a n c) ∧ w' = w := by
  have H : Hid (Row w a n f) := h
  have HP : Hid (p ∈ lst f n) := hp
  clear h hp
  go_enter Try.func8, Try.ntmps8
  go_wp2_with (go_at_call 14; refine (wp_has a n c f p hn _ H.out HP.out).mono ?_; rintro e w' ⟨rfl, rfl⟩)
  go_ret
  exact ⟨rfl, rfl⟩
theorem zzwp_new (B : Nat) (a : Option Addr) (n c : Nat) (l : List Int) (p : Int) (hn : n ≤ 1048576) (w : World) (hB : B ≤ w.heap.size) (h : Own w B a n c l) (hp : ¬ p ∈ l) :
    Calls Try.prog 8 #[.slice a n c, .int .i64 p] w (Added B a n c l p w) := by
  have H : Hid (Own w B a n c l) := h
  have HP : Hid (¬ p ∈ l) := hp
  clear h hp
  go_enter Try.func8, Try.ntmps8
  go_wp2_with fail
  refine (wp_new B a n c l p hn _ hB H.out HP.out).mono ?_
  rintro e w' ⟨a', c', rfl, ho, hg⟩
  have HO : Hid _ := ho
  have HG : Hid _ := hg
  clear ho hg
  go_wp2
  go_ret
  exact ⟨a', c', rfl, HO.out, HG.out⟩
end Go.Proofs.Qxb6618035a.Walks
