/- The plain part of seat b6618000a: the closing quote of a JSON string, over a row of numbers. No Go in sight. -/
import Derived.RowKit
namespace Go.Proofs.Qxb6618000a.Plain

/-- The run of backslashes just before place r, counted back no further than s+1. -/
def run (f : Nat → Int) (s : Nat) : Nat → Nat
  | 0 => 0
  | r + 1 => if s < r ∧ f r = 92 then run f s r + 1 else 0
/-- A quote that closes: it stands there, and the run before it is even. -/
def Q (f : Nat → Int) (s r : Nat) : Prop := f r = 34 ∧ run f s r % 2 = 0
/-- The answer: the first place behind s that closes, or the last of n. -/
def IsAns (f : Nat → Int) (n s : Nat) (r : Int) : Prop :=
  (∃ k : Nat, r = k ∧ s < k ∧ k < n ∧ Q f s k ∧ ∀ q, s < q → q < k → ¬ Q f s q) ∨ (r = (n : Int) - 1 ∧ ∀ q, s < q → q < n → ¬ Q f s q)

theorem run_yes {f : Nat → Int} {s r : Nat} (h : s < r) (hf : f r = 92) : run f s (r + 1) = run f s r + 1 := by simp [run, h, hf]
theorem run_no {f : Nat → Int} {s r : Nat} (h : ¬ f r = 92) : run f s (r + 1) = 0 := by simp [run, h]
theorem run_low {f : Nat → Int} {s r : Nat} (h : r ≤ s + 1) : run f s r = 0 := by
  cases r with
  | zero => rfl
  | succ r => simp [run]; omega

theorem ans_one {f : Nat → Int} {n s : Nat} {r r' : Int} (h : IsAns f n s r) (h' : IsAns f n s r') : r = r' := by
  rcases h with ⟨k, rfl, h1, h2, h3, h4⟩ | ⟨rfl, h4⟩
  · rcases h' with ⟨k', rfl, h1', h2', h3', h4'⟩ | ⟨rfl, h4'⟩
    · have a : ¬ k < k' := fun h => h4' k h1 h h3
      have b : ¬ k' < k := fun h => h4 k' h1' h h3'
      omega
    · exact absurd h3 (h4' k h1 h2)
  · rcases h' with ⟨k', rfl, h1', h2', h3', h4'⟩ | ⟨rfl, h4'⟩
    · exact absurd h3' (h4 k' h1' h2')
    · rfl
theorem ans_rng {f : Nat → Int} {n s : Nat} {r : Int} (h : IsAns f n s r) : -1 ≤ r ∧ r < n := by
  rcases h with ⟨k, rfl, h1, h2, _, _⟩ | ⟨rfl, _⟩ <;> omega

/-- The state of the scan at place i: not escaped, and nothing has closed before it. -/
def At (f : Nat → Int) (s i : Nat) : Prop := run f s i % 2 = 0 ∧ ∀ q, s < q → q < i → ¬ Q f s q
theorem at_start (f : Nat → Int) (s : Nat) : At f s (s + 1) := ⟨by rw [run_low (Nat.le_refl _)], fun q h1 h2 => by omega⟩
theorem at_skip {f : Nat → Int} {s i : Nat} (hi : s < i) (h : At f s i) (hf : f i = 92) : At f s (i + 2) := by
  obtain ⟨h1, h2⟩ := h
  have e1 := run_yes hi hf
  refine ⟨?_, fun q a b => ?_⟩
  · by_cases hg : f (i + 1) = 92
    · rw [run_yes (by omega) hg, e1]; omega
    · rw [run_no hg]
  · by_cases hq : q < i
    · exact h2 q a hq
    · by_cases hq2 : q = i
      · subst hq2; rintro ⟨x, _⟩; omega
      · obtain rfl : q = i + 1 := by omega
        rintro ⟨_, x⟩
        omega
theorem at_next {f : Nat → Int} {s i : Nat} (h : At f s i) (hf : ¬ f i = 92) (hq : ¬ f i = 34) : At f s (i + 1) := by
  obtain ⟨h1, h2⟩ := h
  refine ⟨by rw [run_no hf], fun q a b => ?_⟩
  by_cases hq2 : q = i
  · subst hq2; rintro ⟨x, _⟩; exact hq x
  · exact h2 q a (by omega)
theorem at_found {f : Nat → Int} {n s i : Nat} (hi : s < i) (hn : i < n) (h : At f s i) (hf : f i = 34) : IsAns f n s i :=
  .inl ⟨i, rfl, hi, hn, ⟨hf, h.1⟩, h.2⟩
theorem at_end {f : Nat → Int} {n s i : Nat} (hn : n ≤ i) (h : At f s i) : IsAns f n s ((n : Int) - 1) :=
  .inr ⟨rfl, fun q a b => h.2 q a (by omega)⟩

/-- Putting a row of m before the data moves all by m. -/
theorem run_shift (f g : Nat → Int) (m s : Nat) (h : ∀ i, g (m + i) = f i) (r : Nat) : run g (m + s) (m + r) = run f s r := by
  induction r with
  | zero => rw [run_low (by omega)]; rfl
  | succ r ih =>
    show run g (m + s) (m + r + 1) = _
    simp only [run, h, ih]
    have : (m + s < m + r) ↔ (s < r) := by omega
    simp only [this]
theorem ans_shift {f g : Nat → Int} {n m s : Nat} {r : Int} (h : ∀ i, g (m + i) = f i) (ha : IsAns f n s r) : IsAns g (m + n) (m + s) (m + r) := by
  have hQ : ∀ q, Q g (m + s) (m + q) ↔ Q f s q := fun q => by simp [Q, h, run_shift f g m s h]
  have low : ∀ q, m + s < q → ∃ q', q = m + q' := fun q hq => ⟨q - m, by omega⟩
  rcases ha with ⟨k, rfl, h1, h2, h3, h4⟩ | ⟨rfl, h4⟩
  · refine .inl ⟨m + k, by omega, by omega, by omega, (hQ k).2 h3, fun q a b => ?_⟩
    obtain ⟨q', rfl⟩ := low q a
    exact fun hq => h4 q' (by omega) (by omega) ((hQ q').1 hq)
  · refine .inr ⟨by omega, fun q a b => ?_⟩
    obtain ⟨q', rfl⟩ := low q a
    exact fun hq => h4 q' (by omega) (by omega) ((hQ q').1 hq)

/-- What lies behind n does not matter before it. -/
theorem run_grow (f g : Nat → Int) (n s : Nat) (h : ∀ i, i < n → g i = f i) (r : Nat) (hr : r ≤ n) : run g s r = run f s r := by
  induction r with
  | zero => rfl
  | succ r ih => simp only [run, h r (by omega), ih (by omega)]
theorem ans_grow {f g : Nat → Int} {n m s : Nat} {r r' : Int} (h : ∀ i, i < n → g i = f i) (ha : IsAns f n s r) (hb : IsAns g (n + m) s r') :
    r ≤ r' ∧ (r < (n : Int) - 1 → r' = r) := by
  have hQ : ∀ q, q < n → (Q g s q ↔ Q f s q) := fun q hq => by simp [Q, h q hq, run_grow f g n s h q (by omega)]
  rcases ha with ⟨k, rfl, h1, h2, h3, h4⟩ | ⟨rfl, h4⟩
  · have : IsAns g (n + m) s k := .inl ⟨k, rfl, h1, by omega, (hQ k h2).2 h3, fun q a b hq => h4 q a b ((hQ q (by omega)).1 hq)⟩
    have := ans_one this hb
    omega
  · rcases hb with ⟨k', rfl, h1', h2', h3', h4'⟩ | ⟨rfl, h4'⟩
    · have : ¬ k' < n := fun hlt => h4 k' h1' hlt ((hQ k' hlt).1 h3')
      omega
    · omega
end Go.Proofs.Qxb6618000a.Plain
