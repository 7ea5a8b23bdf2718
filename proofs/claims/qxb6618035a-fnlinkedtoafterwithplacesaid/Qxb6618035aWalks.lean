/- Walks over seat b6618035a: the laws' helpers sameInts, hasIntIn, cloneInts and the functions withPlace, ZZwithPlace, each by a contract. -/
import Derived.Test.Qxb6618035aRows
import Derived.Test.Qxb6618035aPlain
import Derived.WalkKit
import Derived.WalkSpells
import Derived.RowKit3
import Derived.Below
import Derived.Deep.QuietTactic
import Derived.BigQuiet
import Derived.Deep.OwnRows
namespace Go.Proofs.Qxb6618035a.Walks
open Go.RowKit
open Go.Proofs.Qxb6618035a.Plain

theorem ret_bool {a b : Bool} (h : a = b) : Ending.returned (.bool a) = .returned (.bool b) := by rw [h]
theorem info3 : (Try.prog.info? 3).map (fun i => (i.zero, i.size, i.bytes)) = some (some (.int .i64 0), 1, 8) := by kernel_rfl
theorem size3 : (Try.prog.info? 3).map (·.size) = some 1 := by kernel_rfl

/-- What is known of a slice of ints that is read: its first n cells. -/
def Row (w : World) (a : Option Addr) (n : Nat) (f : Nat → Int) : Prop := 0 < n → ∃ b off, a = some ⟨b, off, none⟩ ∧ ∀ i, i < n → w.cell? ⟨b, off + i, none⟩ = some (.int .i64 (f i))

theorem cell_lt {w : World} {p : Addr} {v : Value} (h : w.cell? p = some v) : p.block < w.heap.size := by
  rcases Nat.lt_or_ge p.block w.heap.size with h' | h'
  · exact h'
  · simp [World.cell?, Array.getElem?_eq_none h'] at h
theorem Row.carry {w w' : World} {a : Option Addr} {n : Nat} {f : Nat → Int} (h : Row w a n f) (hb : Below w.heap.size w w') : Row w' a n f := by
  intro hn
  obtain ⟨b, off, rfl, hc⟩ := h hn
  refine ⟨b, off, rfl, fun i hi => ?_⟩
  rw [hb.cell (cell_lt (hc i hi))]; exact hc i hi
theorem Row.congr {w : World} {a : Option Addr} {n : Nat} {f g : Nat → Int} (h : Row w a n f) (e : ∀ i, i < n → f i = g i) : Row w a n g := by
  intro hn
  obtain ⟨b, off, rfl, hc⟩ := h hn
  exact ⟨b, off, rfl, fun i hi => by rw [← e i hi]; exact hc i hi⟩

theorem below_draws {B : Nat} {a w : World} (h : Below B a w) (n : Nat) : Below B a (w.drewN n) := ⟨h.os, h.tape, h.output, h.size, h.block⟩

theorem same_yes (a a' : Option Addr) (n c c' : Nat) (f g : Nat → Int) (hn : n ≤ 1048576) (w : World) (h1 : Row w a n f) (h2 : Row w a' n g) (he : ∀ i, i < n → f i = g i) :
    Calls Try.prog 10 #[.slice a n c, .slice a' n c'] w fun e w' => e = .returned (.bool true) ∧ ∃ k, w' = w.drewN k := by
  have hne : ((n : Int) != n) = false := by simp
  by_cases h0 : n = 0
  · subst h0
    go_enter Try.func10, Try.ntmps10
    go_wp2
    refine wp_loop_rounds 1 ?_
    rw [rounds_succ]
    go_wp2
    go_ret
    exact ⟨rfl, 0, rfl⟩
  · obtain ⟨b, off, rfl, hc⟩ := h1 (by omega)
    obtain ⟨b', off', rfl, hc'⟩ := h2 (by omega)
    have HC : Hid (∀ i, i < n → w.cell? ⟨b, off + i, none⟩ = some (.int .i64 (f i))) := hc
    have HC' : Hid (∀ i, i < n → w.cell? ⟨b', off' + i, none⟩ = some (.int .i64 (g i))) := hc'
    have HE : Hid (∀ i, i < n → f i = g i) := he
    clear hc hc' h1 h2 he
    go_enter Try.func10, Try.ntmps10
    go_wp2
    go_loopw [5] (fun x wr => ∃ i : Nat, i ≤ n ∧ x = .int .i64 i ∧ ∃ k, wr = w.drewN k) (fun x _ => n - (intOf x).toNat)
    case atStart => exact ⟨0, Nat.zero_le _, rfl, 0, rfl⟩
    case round =>
      obtain ⟨i, hi, rfl, k, rfl⟩ := hrel
      by_cases hlt : i < n
      · have g1 : w.cell? ⟨b, off + i, none⟩ = some (.int .i64 (f i)) := HC.out i hlt
        have g2 : w.cell? ⟨b', off' + i, none⟩ = some (.int .i64 (g i)) := HC'.out i hlt
        have g3 : (f i != g i) = false := by rw [HE.out i hlt]; simp
        have hlt' : (i : Int) < n := by omega
        go_wp2
        go_quiet (fail)
        go_wp2
        go_roundw
        case rel => exact ⟨i + 1, by omega, by go_num, _, rfl⟩
        case measure => simp [intOf]; omega
      · go_wp2
        go_ret
        exact ⟨rfl, k, rfl⟩

theorem has_any (a : Option Addr) (n c k : Nat) (f : Nat → Int) (v : Int) (hn : n ≤ 1048576) (hk : k ≤ n) (w : World) (h : Row w a n f) :
    Calls Try.prog 9 #[.slice a n c, .int .i64 k, .int .i64 v] w fun e w' => e = .returned (.bool (hasB f v k)) ∧ w' = w := by
  by_cases h0 : k = 0
  · subst h0
    go_enter Try.func9, Try.ntmps9
    go_wp2
    refine wp_loop_rounds 1 ?_
    rw [rounds_succ]
    go_wp2
    go_ret
    exact ⟨rfl, rfl⟩
  · obtain ⟨b, off, rfl, hc⟩ := h (by omega)
    have HC : Hid (∀ i, i < n → w.cell? ⟨b, off + i, none⟩ = some (.int .i64 (f i))) := hc
    clear hc h
    go_enter Try.func9, Try.ntmps9
    go_wp2
    go_loop [7] (fun x => ∃ i : Nat, i ≤ k ∧ x = .int .i64 i ∧ ¬ v ∈ lst f i) (fun x => k - (intOf x).toNat)
    case atStart => exact ⟨0, Nat.zero_le _, rfl, by simp [lst_zero]⟩
    case round =>
      obtain ⟨i, hi, rfl, hno⟩ := hrel
      have HN : Hid (¬ v ∈ lst f i) := hno
      clear hno
      by_cases hlt : i < k
      · have hcell := HC.out i (by omega)
        by_cases hv : f i = v
        · have hb : (f i == v) = true := by simp [hv]
          have HV : Hid (f i = v) := hv
          clear hv
          go_wp2
          go_ret
          exact ⟨ret_bool ((hasB_iff f v k).2 ((lst_mem f k v).2 ⟨i, hlt, HV.out⟩)).symm, rfl⟩
        · have hb : (f i == v) = false := by simp [hv]
          go_wp2
          go_round
          case rel => exact ⟨i + 1, by omega, by go_num, by
            rw [lst_succ, List.mem_append, List.mem_singleton]
            rintro (h | h)
            · exact HN.out h
            · exact hv h.symm⟩
          case measure => simp [intOf]; omega
      · obtain rfl : i = k := by omega
        go_wp2
        go_ret
        exact ⟨ret_bool ((hasB_no f v i).2 HN.out).symm, rfl⟩
end Go.Proofs.Qxb6618035a.Walks
