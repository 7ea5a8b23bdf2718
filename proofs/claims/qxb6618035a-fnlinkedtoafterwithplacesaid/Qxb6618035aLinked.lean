/- Walks over seat b6618035a: a table of rows in memory; linkedTo and ZZlinkedTo by contracts. -/
import Derived.Test.Qxb6618035aFold
import Derived.Laws.AppendOwnNone
namespace Go.Proofs.Qxb6618035a.Walks
open Go.RowKit
open Go.Proofs.Qxb6618035a.Plain

/-- A table of rows: its address, its number of rows; of each row its address, its length, its capacity, its numbers. -/
structure Tbl where
  A : Option Addr
  N : Nat
  ra : Nat → Option Addr
  rn : Nat → Nat
  rc : Nat → Nat
  g : Nat → Nat → Int

/-- The row at place q, as a list. -/
def Tbl.row (t : Tbl) (q : Nat) : List Int := lst (t.g q) (t.rn q)
theorem Tbl.row_len (t : Tbl) (q : Nat) : (t.row q).length = t.rn q := lst_len _ _

/-- The table lies in the world. -/
structure Tbl.In (t : Tbl) (w : World) : Prop where
  head : 0 < t.N → ∃ b off, t.A = some ⟨b, off, none⟩ ∧ ∀ r, r < t.N → w.cell? ⟨b, off + r, none⟩ = some (.slice (t.ra r) (t.rn r) (t.rc r))
  rows : ∀ r, r < t.N → Row w (t.ra r) (t.rn r) (t.g r)
  nils : ∀ r, r < t.N → t.ra r = none → t.rn r = 0 ∧ t.rc r = 0

theorem Tbl.In.carry {t : Tbl} {w w' : World} (h : t.In w) (hb : Below w.heap.size w w') : t.In w' := by
  refine ⟨fun hn => ?_, fun r hr => (h.rows r hr).carry hb, h.nils⟩
  obtain ⟨b, off, e, hc⟩ := h.head hn
  refine ⟨b, off, e, fun r hr => ?_⟩
  rw [hb.cell (cell_lt (hc r hr))]; exact hc r hr

/-- The places f 0, .., f (m-1) are places of the table. -/
def Fits (t : Tbl) (f : Nat → Int) (m : Nat) : Prop := ∀ i, i < m → 0 ≤ f i ∧ f i < (t.N : Int)

/-- What linkedTo leaves: the rows at the places, joined. -/
def Linked (l : List Int) (w : World) (e : Ending) (w' : World) : Prop := ∃ a c, e = .returned (.slice a l.length c) ∧ Row w' a l.length (fn l) ∧ Below w.heap.size w w'

theorem lk_none (t : Tbl) (C : Nat) (ap : Option Addr) (cp : Nat) (w : World) :
    Calls Try.prog 15 #[.slice t.A t.N C, .slice ap 0 cp] w (Linked [] w) := by
  go_enter Try.func15, Try.ntmps15
  go_wp2
  refine wp_loop_rounds 1 ?_
  rw [rounds_succ]
  go_wp2
  go_ret
  exact ⟨none, 0, rfl, fun h => absurd h (Nat.lt_irrefl 0), Below.refl _ _⟩

theorem linked_one {t : Tbl} {q : Nat} {w : World} (h : Row w (t.ra q) (t.rn q) (t.g q)) : Linked (t.row q) w (.returned (.slice (t.ra q) (t.rn q) (t.rc q))) w := by
  refine ⟨t.ra q, t.rc q, by rw [Tbl.row_len], ?_, Below.refl _ _⟩
  rw [Tbl.row_len]
  exact h.congr (fun i hi => (lst_at _ _ _ hi).symm)

theorem lk_one (t : Tbl) (C : Nat) (ap : Option Addr) (cp : Nat) (f : Nat → Int) (w : World) (hT : t.In w) (hR : Row w ap 1 f) (hF : Fits t f 1) :
    Calls Try.prog 15 #[.slice t.A t.N C, .slice ap 1 cp] w (Linked (flat t.row f 1) w) := by
  obtain ⟨g0, g1⟩ := hF 0 (by omega)
  obtain ⟨q, hq⟩ := Int.eq_ofNat_of_zero_le g0
  obtain ⟨b, off, hA, hc⟩ := hT.head (by omega)
  obtain ⟨bp, op, hp, hcp⟩ := hR (by omega)
  have h0 : w.cell? ⟨bp, op, none⟩ = some (.int .i64 q) := by rw [← hq]; exact hcp 0 (by omega)
  have h1 : w.cell? ⟨b, off + q, none⟩ = some (.slice (t.ra q) (t.rn q) (t.rc q)) := hc q (by omega)
  have HR : Hid (Row w (t.ra q) (t.rn q) (t.g q)) := hT.rows q (by omega)
  have hqN : (q : Int) < t.N := by omega
  rw [hA, hp]
  have HL : Hid (flat t.row f 1 = t.row q) := by show _ = _; rw [flat_one, hq]; simp
  clear hT hR hF hc hcp g0 g1 hq
  go_enter Try.func15, Try.ntmps15
  go_wp2
  go_ret
  rw [HL.out]
  exact linked_one HR.out

/-- The appended row's cells. -/
theorem row_cells {w : World} {ad : Addr} {n : Nat} {f : Nat → Int} (h : Row w (some ad) n f) : ∀ j u, ((lst f n).map (Value.int .i64))[j]? = some u → w.cell? (ad.add j) = some u := by
  intro j u hj
  have hlt : j < n := by
    have := (List.getElem?_eq_some_iff.1 hj).1
    simpa [lst_len] using this
  obtain ⟨b, off, e, hc⟩ := h (by omega)
  simp only [Option.some.injEq] at e
  subst e
  have ea : (⟨b, off, none⟩ : Addr).add j = ⟨b, off + j, none⟩ := by
    unfold Addr.add
    split <;> simp_all
  rw [ea, hc j hlt]
  simp [lst, List.getElem?_range hlt] at hj
  rw [← hj]
theorem ints_one (l : List Int) : ∀ u ∈ l.map (Value.int .i64), u.oneCell' = true := by
  intro u hu
  obtain ⟨x, _, rfl⟩ := List.mem_map.1 hu
  rfl
theorem own4_add {w : World} {B : Nat} {v : Value} {l r : List Int} (h : w.ownsRow B 3 1 v (l.length + r.length) (l.map (Value.int .i64) ++ r.map (Value.int .i64))) : Own4 w B v (l ++ r) := by
  unfold Own4
  rw [List.length_append, List.map_append]
  exact h
theorem linked_own {w w' : World} {a : Option Addr} {c : Nat} {l : List Int} (h : Own w' w.heap.size a l.length c l) (hb : Below w.heap.size w w') : Linked l w (.returned (.slice a l.length c)) w' :=
  ⟨a, c, rfl, h.row, hb⟩

set_option maxHeartbeats 1000000 in
theorem lk_many (t : Tbl) (C : Nat) (bp op m cp : Nat) (f : Nat → Int) (hm : 2 ≤ m) (hm2 : m ≤ 1048576) (hlen : (flat t.row f m).length ≤ 1048576) (w : World) (hT : t.In w) (hc : ∀ i, i < m → w.cell? ⟨bp, op + i, none⟩ = some (.int .i64 (f i))) (hF : Fits t f m) :
    Calls Try.prog 15 #[.slice t.A t.N C, .slice (some ⟨bp, op, none⟩) m cp] w (Linked (flat t.row f m) w) := by
  obtain ⟨b, off, hA, hct⟩ := hT.head (by have := hF 0 (by omega); omega)
  have hbt : b < w.heap.size := cell_lt (hct 0 (by have := hF 0 (by omega); omega))
  have hbp : bp < w.heap.size := cell_lt (hc 0 (by omega))
  have HT : Hid (t.In w) := hT
  have HC : Hid (∀ i, i < m → w.cell? ⟨bp, op + i, none⟩ = some (.int .i64 (f i))) := hc
  have HCT : Hid (∀ r, r < t.N → w.cell? ⟨b, off + r, none⟩ = some (.slice (t.ra r) (t.rn r) (t.rc r))) := hct
  have HF : Hid (Fits t f m) := hF
  have HLEN : Hid ((flat t.row f m).length ≤ 1048576) := hlen
  have hm1 : ((m : Int) == 1) = false := by rw [beq_eq_false_iff_ne]; omega
  obtain ⟨i0, hi0, hz0, hz1, hz2⟩ := info_parts info3
  rw [hA]
  clear hT hc hct hF hlen hA
  go_enter Try.func15, Try.ntmps15
  go_wp2
  go_loopw [5, 19] (fun x y wr => ∃ i : Nat, i ≤ m ∧ y = .int .i64 i ∧ wr.ownsRow w.heap.size 3 1 x (flat t.row f i).length ((flat t.row f i).map (Value.int .i64)) ∧ Below w.heap.size w wr) (fun _ y _ => m - (intOf y).toNat)
  case atStart => exact ⟨0, Nat.zero_le _, rfl, World.ownsRow_nil _ _ _ _, Below.refl _ _⟩
  case round =>
    obtain ⟨i, hi, rfl, hown, hbel⟩ := hrel
    obtain ⟨ax, cx, rfl, hox⟩ := own_shape hown
    clear hown
    have HX : Hid (Own wr w.heap.size ax (flat t.row f i).length cx (flat t.row f i)) := hox
    have HB : Hid (Below w.heap.size w wr) := hbel
    have hsz : w.heap.size ≤ wr.heap.size := hbel.size
    clear hox hbel
    by_cases hlt : i < m
    · obtain ⟨q0, q1⟩ := HF.out i hlt
      obtain ⟨q, hq⟩ := Int.eq_ofNat_of_zero_le q0
      have hqN : (q : Int) < t.N := by omega
      have hcp : wr.cell? ⟨bp, op + i, none⟩ = some (.int .i64 q) := by rw [← hq]; exact (HB.out.cell (p := ⟨bp, op + i, none⟩) hbp).trans (HC.out i hlt)
      have hct : wr.cell? ⟨b, off + q, none⟩ = some (.slice (t.ra q) (t.rn q) (t.rc q)) := (HB.out.cell (p := ⟨b, off + q, none⟩) hbt).trans (HCT.out q (by omega))
      have HRQ : Hid (Row wr (t.ra q) (t.rn q) (t.g q)) := (HT.out.rows q (by omega)).carry HB.out
      have HNQ : Hid (t.ra q = none → t.rn q = 0 ∧ t.rc q = 0) := HT.out.nils q (by omega)
      have HFL : Hid (flat t.row f (i + 1) = flat t.row f i ++ t.row q) := by show _ = _; simp only [flat]; rw [hq]; simp
      have hbd : (flat t.row f i).length + t.rn q ≤ 1048576 := by
        have h1 := flat_mono t.row f (i + 1) m (by omega)
        rw [HFL.out, List.length_append, Tbl.row_len] at h1
        have h2 := HLEN.out
        omega
      clear hq q0 q1
      generalize hL : flat t.row f i = L at *
      have HL : Hid (flat t.row f i = L) := hL
      clear hL
      generalize hra : t.ra q = raq at *
      have HRA : Hid (t.ra q = raq) := hra
      clear hra
      cases raq with
      | none =>
        obtain ⟨z1, z2⟩ := HNQ.out rfl
        rw [z1, z2] at hct
        have HRW : Hid (t.row q = []) := by show _ = _; unfold Tbl.row; rw [z1]; rfl
        clear z1 z2
        go_wp2_with (at_builtin; refine wpList_append_own_none rfl _ _ 22 rfl w.heap.size 3 i0 1 Try.underlying22 hi0 _ _ _ rfl HX.out rfl ?_)
        go_roundw
        case rel => exact ⟨i + 1, by omega, by go_num, by show World.ownsRow _ _ _ _ _ _ _; rw [HFL.out, HRW.out, List.append_nil]; exact HX.out, HB.out⟩
        case measure => simp [intOf]; omega
      | some ad =>
        go_wp2_with (at_builtin; refine wpList_append_own _ rfl _ _ 22 rfl w.heap.size 3 i0 (.int .i64 0) 1 8 Try.underlying22 hi0 hz0 hz1 hz2 rfl (by decide) _ _ _ rfl HX.out ad (t.rn q) (t.rc q) ((t.row q).map (Value.int .i64)) rfl ?c0 (row_cells HRQ.out) (ints_one _) ?c3 ?c4 ?c5 ?_)
        case c0 => rw [List.length_map, Tbl.row_len]; omega
        case c3 => unfold maxLen; omega
        case c4 => omega
        case c5 => exact hsz
        intro v' w4 hown' hgrow _
        have HO4 : Hid (Own4 w4 w.heap.size v' (L ++ t.row q)) := own4_add (by rw [Tbl.row_len]; exact hown')
        have HB4 : Hid (Below w.heap.size w w4) := acc_grow HX.out HB.out hgrow
        clear hown' hgrow
        go_wp2
        go_roundw
        case rel => exact ⟨i + 1, by omega, by go_num, by show World.ownsRow _ _ _ _ _ _ _; rw [HFL.out]; exact HO4.out, HB4.out⟩
        case measure => simp [intOf]; omega
    · obtain rfl : i = m := by omega
      go_wp2
      go_ret
      exact linked_own HX.out HB.out

theorem lk_any (t : Tbl) (C : Nat) (ap : Option Addr) (m cp : Nat) (f : Nat → Int) (hm : m ≤ 1048576) (hlen : (flat t.row f m).length ≤ 1048576) (w : World) (hT : t.In w) (hR : Row w ap m f) (hF : Fits t f m) :
    Calls Try.prog 15 #[.slice t.A t.N C, .slice ap m cp] w (Linked (flat t.row f m) w) := by
  by_cases h0 : m = 0
  · subst h0; exact lk_none t C ap cp w
  · by_cases h1 : m = 1
    · subst h1; exact lk_one t C ap cp f w hT hR hF
    · obtain ⟨bp, op, rfl, hc⟩ := hR (by omega)
      exact lk_many t C bp op m cp f (by omega) hm hlen w hT hc hF

theorem zzlk_any (t : Tbl) (C : Nat) (ap : Option Addr) (m cp : Nat) (f : Nat → Int) (hm : m ≤ 1048576) (hlen : (flat t.row f m).length ≤ 1048576) (w : World) (hT : t.In w) (hR : Row w ap m f) (hF : Fits t f m) :
    Calls Try.prog 12 #[.slice t.A t.N C, .slice ap m cp] w (Linked (flat t.row f m) w) := by
  have HT : Hid (t.In w) := hT
  have HR : Hid (Row w ap m f) := hR
  have HF : Hid (Fits t f m) := hF
  have HL : Hid ((flat t.row f m).length ≤ 1048576) := hlen
  clear hT hR hF hlen
  go_enter Try.func12, Try.ntmps12
  go_wp2_with fail
  refine (lk_any t C ap m cp f hm HL.out _ HT.out HR.out HF.out).mono ?_
  rintro e w' ⟨a, c, rfl, hr, hb⟩
  have HR' : Hid _ := hr
  have HB' : Hid _ := hb
  clear hr hb
  go_wp2
  go_ret
  exact ⟨a, c, rfl, HR'.out, HB'.out⟩
end Go.Proofs.Qxb6618035a.Walks
