/- Walks over seat b6618000a: ClosingQuote and zzQuoteModel, each by a contract: both answer the same. -/
import Derived.Test.Qxb6618000aRows
import Derived.Test.Qxb6618000aPlain
import Derived.WalkKit
import Derived.WalkSpells
import Derived.RowKit3
import Derived.Below
namespace Go.Proofs.Qxb6618000a.Walks
open Go.RowKit
open Go.Proofs.Qxb6618000a.Plain
theorem ret_bool {a b : Bool} (h : a = b) : Ending.returned (.bool a) = .returned (.bool b) := by rw [h]
theorem ret_int {k : IntKind} {a b : Int} (h : a = b) : Ending.returned (.int k a) = .returned (.int k b) := by rw [h]

/-- The answer of both scans. -/
def Ans (f : Nat → Int) (n s : Nat) (w : World) (e : Ending) (w' : World) : Prop := (∃ r : Int, e = .returned (.int .i64 r) ∧ IsAns f n s r) ∧ w' = w

theorem cq_none (a : Option Addr) (c s : Nat) (f : Nat → Int) (hs : s ≤ 4194304) (w : World) :
    Calls Try.prog 17 #[.slice a 0 c, .int .i64 s] w (Ans f 0 s w) := by
  go_enter Try.func17, Try.ntmps17
  go_wp2
  refine wp_loop_rounds 1 ?_
  rw [rounds_succ]
  go_wp2
  go_ret
  exact ⟨⟨-1, rfl, .inr ⟨rfl, fun q a b => by omega⟩⟩, rfl⟩

theorem cq_some (b off n c s : Nat) (f : Nat → Int) (hs : s ≤ 4194304) (hn : n ≤ 4194304) (w : World) (hc : ∀ i, i < n → w.cell? ⟨b, off + i, none⟩ = some (.int .u8 (f i))) :
    Calls Try.prog 17 #[.slice (some ⟨b, off, none⟩) n c, .int .i64 s] w (Ans f n s w) := by
  have HC : Hid (∀ i, i < n → w.cell? ⟨b, off + i, none⟩ = some (.int .u8 (f i))) := hc
  clear hc
  go_enter Try.func17, Try.ntmps17
  go_wp2
  go_loop [5] (fun x => ∃ i : Nat, s < i ∧ i ≤ n + s + 2 ∧ x = .int .i64 i ∧ At f s i) (fun x => n - (intOf x).toNat)
  case atStart => exact ⟨s + 1, by omega, by omega, by go_num, at_start f s⟩
  case round =>
    obtain ⟨i, h1, h2, rfl, hat⟩ := hrel
    have HA : Hid (At f s i) := hat
    clear hat
    by_cases hlt : i < n
    · have hcell := HC.out i hlt
      by_cases h92 : f i = 92
      · have hb : (f i == 92) = true := by simp [h92]
        have H92 : Hid (f i = 92) := h92
        clear h92
        go_wp2
        go_round
        case rel => exact ⟨i + 2, by omega, by omega, by go_num, at_skip h1 HA.out H92.out⟩
        case measure => simp [intOf]; omega
      · have hb : (f i == 92) = false := by simp [h92]
        by_cases h34 : f i = 34
        · have hb2 : (f i == 34) = true := by simp [h34]
          have H34 : Hid (f i = 34) := h34
          clear h34
          go_wp2
          go_ret
          exact ⟨⟨i, rfl, at_found h1 hlt HA.out H34.out⟩, rfl⟩
        · have hb2 : (f i == 34) = false := by simp [h34]
          go_wp2
          go_round
          case rel => exact ⟨i + 1, by omega, by omega, by go_num, at_next HA.out h92 h34⟩
          case measure => simp [intOf]; omega
    · go_wp2
      go_ret
      exact ⟨⟨_, rfl, at_end (by omega) HA.out⟩, rfl⟩

theorem qm_none (a : Option Addr) (c s : Nat) (f : Nat → Int) (hs : s ≤ 4194304) (w : World) :
    Calls Try.prog 16 #[.slice a 0 c, .int .i64 s] w (Ans f 0 s w) := by
  go_enter Try.func16, Try.ntmps16
  go_wp2
  refine wp_loop_rounds 1 ?_
  rw [rounds_succ]
  go_wp2
  go_ret
  exact ⟨⟨-1, rfl, .inr ⟨rfl, fun q a b => by omega⟩⟩, rfl⟩

theorem qm_some (b off n c s : Nat) (f : Nat → Int) (hs : s ≤ 4194304) (hn : n ≤ 4194304) (w : World) (hc : ∀ i, i < n → w.cell? ⟨b, off + i, none⟩ = some (.int .u8 (f i))) :
    Calls Try.prog 16 #[.slice (some ⟨b, off, none⟩) n c, .int .i64 s] w (Ans f n s w) := by
  have HC : Hid (∀ i, i < n → w.cell? ⟨b, off + i, none⟩ = some (.int .u8 (f i))) := hc
  clear hc
  go_enter Try.func16, Try.ntmps16
  go_wp2
  go_loop [5] (fun x => ∃ r : Nat, s < r ∧ r ≤ n + s + 1 ∧ x = .int .i64 r ∧ ∀ q, s < q → q < r → ¬ Q f s q) (fun x => n - (intOf x).toNat)
  case atStart => exact ⟨s + 1, by omega, by omega, by go_num, fun q a b => by omega⟩
  case round =>
    obtain ⟨r, h1, h2, rfl, hno⟩ := hrel
    have HN : Hid (∀ q, s < q → q < r → ¬ Q f s q) := hno
    clear hno
    by_cases hlt : r < n
    · have hcell := HC.out r hlt
      by_cases h34 : f r = 34
      · have hb2 : (f r != 34) = false := by simp [h34]
        have H34 : Hid (f r = 34) := h34
        clear h34
        go_wp2
        go_loop [6, 7] (fun x y => ∃ t : Nat, s ≤ t ∧ t < r ∧ x = .int .i64 ((r : Int) - 1 - t) ∧ y = .int .i64 t ∧ run f s r = (r - 1 - t) + run f s (t + 1)) (fun _ y => (intOf y).toNat)
        case atStart => exact ⟨r - 1, by omega, by omega, by go_num, by go_num, by rw [show r - 1 + 1 = r by omega]; omega⟩
        case round =>
          obtain ⟨t, g1, g2, rfl, rfl, hrun⟩ := hrel
          have HM : Hid (run f s r = (r - 1 - t) + run f s (t + 1)) := hrun
          clear hrun
          by_cases hgo : s < t ∧ f t = 92
          · obtain ⟨ht, h92⟩ := hgo
            have hct := HC.out t (by omega)
            have hb : (f t == 92) = true := by simp [h92]
            have H92 : Hid (f t = 92) := h92
            clear h92
            go_wp2
            go_round
            case rel => exact ⟨t - 1, by omega, by omega, by go_num, by go_num, by rw [HM.out, run_yes ht H92.out, show t - 1 + 1 = t by omega]; omega⟩
            case measure => simp [intOf]; omega
          · have h0 : run f s (t + 1) = 0 := by
              by_cases ht : s < t
              · exact run_no (fun h => hgo ⟨ht, h⟩)
              · exact run_low (by omega)
            have HR : Hid (run f s r = r - 1 - t) := by
              show _ = _
              rw [HM.out, h0]; omega
            clear h0 HM
            have hx : s = t ∨ (s < t ∧ (f t == 92) = false) := by
              by_cases ht : s < t
              · exact .inr ⟨ht, by simpa using fun h => hgo ⟨ht, h⟩⟩
              · exact .inl (by omega)
            clear hgo
            by_cases hev : (r - 1 - t) % 2 = 0
            · have hq : Q f s r := ⟨H34.out, by rw [HR.out]; exact hev⟩
              have HQ : Hid (Q f s r) := hq
              clear hq
              have he : (((r : Int) - 1 - t) % 2 == 0) = true := by rw [beq_iff_eq]; omega
              rcases hx with hx | ⟨ht, hx⟩
              · subst hx
                go_wp2
                go_ret
                exact ⟨⟨r, rfl, .inl ⟨r, rfl, h1, hlt, HQ.out, HN.out⟩⟩, rfl⟩
              · have hct := HC.out t (by omega)
                go_wp2
                go_ret
                exact ⟨⟨r, rfl, .inl ⟨r, rfl, h1, hlt, HQ.out, HN.out⟩⟩, rfl⟩
            · have HQ : Hid (∀ q, s < q → q < r + 1 → ¬ Q f s q) := by
                intro q a b
                by_cases hq : q = r
                · subst hq; rintro ⟨_, x⟩; rw [HR.out] at x; exact hev x
                · exact HN.out q a (by omega)
              have he : (((r : Int) - 1 - t) % 2 == 0) = false := by rw [beq_eq_false_iff_ne]; omega
              rcases hx with hx | ⟨ht, hx⟩
              · subst hx
                go_wp2
                go_round
                case rel => exact ⟨r + 1, by omega, by omega, by go_num, HQ.out⟩
                case measure => simp [intOf]; omega
              · have hct := HC.out t (by omega)
                go_wp2
                go_round
                case rel => exact ⟨r + 1, by omega, by omega, by go_num, HQ.out⟩
                case measure => simp [intOf]; omega
      · have hb2 : (f r != 34) = true := by simp [h34]
        go_wp2
        go_round
        case rel => exact ⟨r + 1, by omega, by omega, by go_num, fun q a b => by
          by_cases hq : q = r
          · subst hq; rintro ⟨x, _⟩; exact h34 x
          · exact HN.out q a (by omega)⟩
        case measure => simp [intOf]; omega
    · go_wp2
      go_ret
      exact ⟨⟨_, rfl, .inr ⟨rfl, fun q a b => HN.out q a (by omega)⟩⟩, rfl⟩
end Go.Proofs.Qxb6618000a.Walks
