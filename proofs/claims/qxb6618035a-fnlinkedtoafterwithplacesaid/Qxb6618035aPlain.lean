/- The plain part of seat b6618035a: lists of ints, folds with withPlace, rows joined. No Go in sight. -/
import Derived.RowKit
namespace Go.Proofs.Qxb6618035a.Plain

/-- The first n of a row of numbers, as a list. -/
def lst (f : Nat → Int) (n : Nat) : List Int := (List.range n).map f
theorem lst_len (f : Nat → Int) (n : Nat) : (lst f n).length = n := by simp [lst]
theorem lst_zero (f : Nat → Int) : lst f 0 = [] := rfl
theorem lst_succ (f : Nat → Int) (n : Nat) : lst f (n + 1) = lst f n ++ [f n] := by simp [lst, List.range_succ]
theorem lst_mem (f : Nat → Int) (n : Nat) (v : Int) : v ∈ lst f n ↔ ∃ i, i < n ∧ f i = v := by simp [lst]
theorem lst_at (f : Nat → Int) (n i : Nat) (h : i < n) : (lst f n).getD i 0 = f i := by simp [lst, h]
/-- A list, as a row of numbers. -/
def fn (l : List Int) (i : Nat) : Int := l.getD i 0
theorem fn_mem (l : List Int) (v : Int) : v ∈ l ↔ ∃ i, i < l.length ∧ fn l i = v := by
  constructor
  · intro h
    obtain ⟨i, hi, rfl⟩ := List.getElem_of_mem h
    exact ⟨i, hi, by simp [fn, hi]⟩
  · rintro ⟨i, hi, rfl⟩
    simp [fn, hi]
theorem lst_fn (l : List Int) : lst (fn l) l.length = l := by
  apply List.ext_getElem
  · simp [lst]
  · intro i h1 h2
    simp [lst, fn, h2]

/-- withPlace, on lists. -/
def withPl (l : List Int) (p : Int) : List Int := if p ∈ l then l else l ++ [p]
theorem withPl_in {l : List Int} {p : Int} (h : p ∈ l) : withPl l p = l := by simp [withPl, h]
theorem withPl_out {l : List Int} {p : Int} (h : ¬ p ∈ l) : withPl l p = l ++ [p] := by simp [withPl, h]
/-- The fold after i rounds. -/
def accTo (l : List Int) (f : Nat → Int) : Nat → List Int
  | 0 => l
  | i + 1 => withPl (accTo l f i) (f i)
/-- The law's own list after i rounds. -/
def wantTo (l : List Int) (f : Nat → Int) : Nat → List Int
  | 0 => l
  | i + 1 => if f i ∈ l ∨ f i ∈ lst f i then wantTo l f i else wantTo l f i ++ [f i]
theorem want_mem (l : List Int) (f : Nat → Int) (i : Nat) (x : Int) : x ∈ wantTo l f i ↔ x ∈ l ∨ x ∈ lst f i := by
  induction i with
  | zero => simp [wantTo, lst_zero]
  | succ i ih =>
    simp only [wantTo, lst_succ, List.mem_append, List.mem_singleton]
    split
    · rename_i h
      rw [ih]
      constructor
      · rintro (h1 | h1)
        · exact .inl h1
        · exact .inr (.inl h1)
      · rintro (h1 | h1 | h1)
        · exact .inl h1
        · exact .inr h1
        · subst h1; exact h
    · simp only [List.mem_append, List.mem_singleton, ih, or_assoc]
theorem acc_want (l : List Int) (f : Nat → Int) (i : Nat) : accTo l f i = wantTo l f i := by
  induction i with
  | zero => rfl
  | succ i ih =>
    simp only [accTo, wantTo, ih, withPl, want_mem]
theorem acc_all (l : List Int) (f : Nat → Int) (n i : Nat) (h : i < n) : f i ∈ accTo l f n := by
  rw [acc_want, want_mem, lst_mem]
  exact .inr ⟨i, h, rfl⟩
theorem acc_len (l : List Int) (f : Nat → Int) (i : Nat) : (accTo l f i).length ≤ l.length + i := by
  induction i with
  | zero => simp [accTo]
  | succ i ih =>
    simp only [accTo, withPl]
    split
    · omega
    · simp; omega
theorem want_len (l : List Int) (f : Nat → Int) (i : Nat) : (wantTo l f i).length ≤ l.length + i := by
  rw [← acc_want]; exact acc_len l f i
theorem acc_in {l : List Int} {f : Nat → Int} {i : Nat} (h : f i ∈ accTo l f i) : accTo l f (i + 1) = accTo l f i := withPl_in h
theorem acc_out {l : List Int} {f : Nat → Int} {i : Nat} (h : ¬ f i ∈ accTo l f i) : accTo l f (i + 1) = accTo l f i ++ [f i] := withPl_out h
theorem want_in {l : List Int} {f : Nat → Int} {i : Nat} (h : f i ∈ l ∨ f i ∈ lst f i) : wantTo l f (i + 1) = wantTo l f i := by simp [wantTo, h]
theorem want_out {l : List Int} {f : Nat → Int} {i : Nat} (h : ¬ (f i ∈ l ∨ f i ∈ lst f i)) : wantTo l f (i + 1) = wantTo l f i ++ [f i] := by simp only [wantTo, h, if_false]

/-- Is v among the first k (over the walk's numbers)? -/
def hasB (f : Nat → Int) (v : Int) (k : Nat) : Bool := decide (v ∈ lst f k)
theorem hasB_iff (f : Nat → Int) (v : Int) (k : Nat) : hasB f v k = true ↔ v ∈ lst f k := by simp [hasB]
theorem hasB_no (f : Nat → Int) (v : Int) (k : Nat) : hasB f v k = false ↔ ¬ v ∈ lst f k := by simp [hasB]

/-- The rows at the places f 0, .., f (i-1), joined. 'row q': the row at place q. -/
def flat (row : Nat → List Int) (f : Nat → Int) : Nat → List Int
  | 0 => []
  | i + 1 => flat row f i ++ row (f i).toNat
theorem flat_one (row : Nat → List Int) (f : Nat → Int) : flat row f 1 = row (f 0).toNat := by simp [flat]
theorem flat_add (row : Nat → List Int) (f : Nat → Int) (k m : Nat) : flat row f (k + m) = flat row f k ++ flat row (fun i => f (k + i)) m := by
  induction m with
  | zero => simp [flat]
  | succ m ih =>
    show flat row f (k + m) ++ row (f (k + m)).toNat = _
    rw [ih]
    simp [flat]
theorem flat_congr (row : Nat → List Int) (f g : Nat → Int) (n : Nat) (h : ∀ i, i < n → f i = g i) : flat row f n = flat row g n := by
  induction n with
  | zero => rfl
  | succ n ih => simp only [flat]; rw [ih (fun i hi => h i (by omega)), h n (by omega)]
theorem flat_mono (row : Nat → List Int) (f : Nat → Int) (k n : Nat) (h : k ≤ n) : (flat row f k).length ≤ (flat row f n).length := by
  obtain ⟨m, rfl⟩ := Nat.exists_eq_add_of_le h
  rw [flat_add]; simp
theorem fn_left (a b : List Int) (i : Nat) (h : i < a.length) : fn (a ++ b) i = fn a i := by
  simp [fn, List.getElem?_append_left h]
theorem fn_right (a b : List Int) (i : Nat) : fn (a ++ b) (a.length + i) = fn b i := by
  simp [fn, List.getElem?_append_right]
end Go.Proofs.Qxb6618035a.Plain
