/- The proof of 'Rows.FnLinkedToAfterWithPlaceSaid': the guide's frame (the slices' shell, turned to a table of rows) over the walk in Qxb6618035aAfter. -/
import Derived.Test.Qxb6618035aRows
import Derived.Test.Qxb6618035aAfter
import Derived.WalkKit
import Derived.ProofKit
import Derived.OpenShut
import Derived.ShutString
import Derived.ChangeOld
import Derived.Below
import Derived.Deep.Matrix
namespace Go.Proofs.Qxb6618035a.fnLinkedToAfterWithPlace
open Go.ChangeShapes Go.WideShapes Go.ChangeAt Go.RowKit

theorem own : ownKnob Try.prog.godebug = none := by kernel_rfl
theorem laidOut : laidOutB Try.prog = true := by kernel_rfl
theorem cells22 : Try.prog.cellsOf 22 = 1 := by kernel_rfl
theorem cells3 : Try.prog.cellsOf 3 = 1 := by kernel_rfl

/-- A slice of ints that came in. -/
theorem row_of {W : World} {x : Addr} {len cap : Nat} {zs : List Int} (h1 : len ≤ cap) (h3 : zs.length = cap) (h4 : ∀ i, i < zs.length → W.cell? (x.add i) = some (.int .i64 (zs.getD i 0))) : Walks.Row W (some x) len (fun i => zs.getD i 0) := by
  intro hn
  obtain ⟨b, off, spot⟩ := x
  have hspot : spot = none := by simpa [Addr.add] using World.cell?_spot (h4 0 (by omega))
  subst hspot
  exact ⟨b, off, rfl, fun i hi => by rw [← add_plain]; exact h4 i (by omega)⟩

/-- A table that came in. -/
theorem tbl_of {W : World} {a : Addr} {len cap : Nat} {A : Nat → Option Addr} {L C : Nat → Nat} {Z : Nat → List Int} (hl : len ≤ cap)
    (hx : ∀ r, r < cap → W.cell? (a.add r) = some (.slice (A r) (L r) (C r)) ∧ L r ≤ C r ∧ (Z r).length = C r ∧ (A r = none → C r = 0) ∧ ∀ a', A r = some a' → ∀ c, c < C r → W.cell? (a'.add c) = some (.int .i64 ((Z r).getD c 0))) :
    (Walks.Tbl.mk (some a) len A L C (fun r i => (Z r).getD i 0)).In W := by
  refine ⟨fun hn => ?_, fun r hr => ?_, fun r hr hnone => ?_⟩
  · obtain ⟨b, off, spot⟩ := a
    have hn' : 0 < len := hn
    have hspot : spot = none := by simpa [Addr.add] using World.cell?_spot (hx 0 (by omega)).1
    subst hspot
    exact ⟨b, off, rfl, fun r hr => by
      have hr' : r < len := hr
      rw [← add_plain]; exact (hx r (by omega)).1⟩
  · have hr' : r < len := hr
    obtain ⟨_, h1, h2, h3, h4⟩ := hx r (by omega)
    intro hn
    have hn' : 0 < L r := hn
    show ∃ b off, A r = some ⟨b, off, none⟩ ∧ _
    cases hA : A r with
    | none => have := h3 hA; omega
    | some x =>
      obtain ⟨b, off, e, hc⟩ := row_of h1 h2 (fun i hi => h4 x hA i (by omega)) hn'
      exact ⟨b, off, e, hc⟩
  · have hr' : r < len := hr
    obtain ⟨_, h1, _, h3, _⟩ := hx r (by omega)
    have hA : A r = none := hnone
    have := h3 hA
    show L r = 0 ∧ C r = 0
    omega

set_option maxRecDepth 100000 in
theorem lifted (os : Os) (started : os.Started) (H : Type) (enc : TypeId × Value → H) :
    ReturnsInHanded {} Try.checked os 5 .any (Rows.fnLinkedToAfterWithPlaceSpec.pre6 enc Try.prog Try.f5 Rows.fnLinkedToAfterWithPlaceRow.domain false) (Rows.fnLinkedToAfterWithPlaceSpec.post enc Try.prog Try.f5 false true false false) := by
  refine returnsInHanded_of_change (C := Try.checked) own started (by kernel_rfl) Try.func5
    (ChangeSpec.witness6 (enc := enc) (C := Try.checked) false ⟨#[], #[.slice none 0 0, .slice none 0 0, .int .i64 0], []⟩ 8 (by kernel_rfl) (by kernel_rfl) (by kernel_rfl) (by kernel_rfl)) ?_
  intro W base args ds gs before hval0 hW hcnd _
  have hval : ∀ (j : Nat) t v, Try.f5.params[j]? = some t → args[j]? = some v → Value.okWide Try.prog W .any base t v := hval0
  have hW' := hW
  obtain ⟨p, q, hA0, hV, rfl, hfz, hnd⟩ := hW
  have hA : DataW.TrodAll enc Try.prog W 0 (fun _ => true) true Try.f5.params.toList args.toList ds p := hA0
  rw [Try.params5] at hA hval
  obtain ⟨v0, vs0, d0, ds0, p0, q0, hargs, rfl, rfl, h0, r0⟩ := trodAll_cons hA
  obtain ⟨v1, vs1, d1, ds1, p1, q1, rfl, rfl, rfl, h1, r1⟩ := trodAll_cons r0
  obtain ⟨v2, vs2, d2, ds2, p2, q2, rfl, rfl, rfl, h2, r2⟩ := trodAll_cons r1
  obtain ⟨rfl, rfl, rfl⟩ := trodAll_nil r2
  obtain rfl : args = #[v0, v1, v2] := by cases args; simp_all
  obtain ⟨rfl, rfl⟩ := trodVars_none hV
  obtain ⟨a0, len0, cap0, rfl⟩ := okWide_slice Try.underlying27 (hval 0 27 v0 rfl rfl)
  have k0 := h0
  have lt0 : ∀ x ∈ p0, x.block < W.heap.size := by obtain ⟨m, hm⟩ := k0; exact DataW.trod_lt m _ _ _ hm
  obtain ⟨T, hTA, hTN, hTI, hTL⟩ : ∃ T : Walks.Tbl, a0 = T.A ∧ len0 = T.N ∧ T.In W ∧ T.N ≤ maxLen := by
    obtain ⟨fuel, hf⟩ := h0
    rcases Deep.open_int_rows Try.underlying27 Try.underlying22 Try.underlying3 cells22 cells3 hf with ⟨hcs, _⟩ | ⟨a, l, c, A, L, C, Z, hcs, _, hl, hm, _, hx⟩
    · simp [Value.cells] at hcs
      obtain ⟨rfl, rfl, rfl⟩ := hcs
      exact ⟨⟨none, 0, fun _ => none, fun _ => 0, fun _ => 0, fun _ _ => 0⟩, rfl, rfl, ⟨fun h => absurd h (Nat.lt_irrefl 0), fun r hr => absurd hr (Nat.not_lt_zero r), fun r hr => absurd hr (Nat.not_lt_zero r)⟩, Nat.zero_le _⟩
    · simp [Value.cells] at hcs
      obtain ⟨rfl, rfl, rfl⟩ := hcs
      exact ⟨_, rfl, rfl, tbl_of hl (fun r hr => ⟨(hx r hr).1, (hx r hr).2.1, (hx r hr).2.2.2.1, (hx r hr).2.2.2.2.2.1, fun a' ha' c hc => ((hx r hr).2.2.2.2.2.2 a' ha').2 c hc⟩), Nat.le_trans hl hm⟩
  obtain ⟨a1, len1, cap1, rfl⟩ := okWide_slice Try.underlying22 (hval 1 22 v1 rfl rfl)
  have k1 := h1
  have lt1 : ∀ x ∈ p1, x.block < W.heap.size := by obtain ⟨m, hm⟩ := k1; exact DataW.trod_lt m _ _ _ hm
  obtain ⟨g, hg, hgl, hgn⟩ : ∃ g, Walks.Row W a1 len1 g ∧ len1 ≤ maxLen ∧ (a1 = none → len1 = 0 ∧ cap1 = 0) := by
    obtain ⟨fuel, hf⟩ := h1
    rcases open_ints Try.underlying22 Try.underlying3 (by kernel_rfl) hf with ⟨hcs, _⟩ | ⟨x, l, c, zs, hcs, _, hl, hm, hz, _, hcell, hwz⟩
    · simp [Value.cells] at hcs
      obtain ⟨rfl, rfl, rfl⟩ := hcs
      exact ⟨fun _ => 0, fun h => absurd h (Nat.lt_irrefl 0), Nat.zero_le _, fun _ => ⟨rfl, rfl⟩⟩
    · simp [Value.cells] at hcs
      obtain ⟨rfl, rfl, rfl⟩ := hcs
      exact ⟨_, row_of hl (by simpa using hz) hcell, Nat.le_trans hl hm, fun h => by cases h⟩
  obtain ⟨a2, rfl, rfl, rfl, w2⟩ := open_int Try.underlying3 (hval 2 3 v2 rfl rfl) h2
  clear hA0 hval0
  have call := Walks.aft_any T cap0 a1 len1 cap1 g a2 hTL hgl hgn W hTI hg
  rw [← hTA, ← hTN] at call
  refine call.mono fun e W' ⟨he, bel⟩ => ?_
  subst he
  exact ⟨_, rfl, _, _, _, [], _, [], hW', trodAll_mk1 (shut_bool Try.underlying4 _), (trodAll_cons_mk (Below.trod laidOut (by kernel_rfl) (of_decide_eq_true (by kernel_rfl)) k0 bel lt0) (trodAll_cons_mk (Below.trod laidOut (by kernel_rfl) (of_decide_eq_true (by kernel_rfl)) k1 bel lt1) (trodAll_cons_mk (shut_int Try.underlying3 w2) trodAll_mk0))), rfl, bel.frame _, fun h => by cases h⟩

theorem over : Rows.fnLinkedToAfterWithPlaceRow.holds Try.pinned (OpenSpec.ofChange Rows.fnLinkedToAfterWithPlaceSpec) :=
  OpenClaim.holds_of_wide 5 Try.f5 rfl rfl rfl rfl rfl rfl rfl ⟨rfl, rfl, rfl, rfl, rfl⟩ rfl rfl rfl rfl rfl (by kernel_rfl) Try.func5 (by kernel_rfl)
    (of_decide_eq_true (by kernel_rfl)) (by unfold Func.isWrapper; first | (rw [if_pos (by decide +kernel)]; kernel_rfl) | (rw [if_neg (by decide +kernel)]; exact ⟨rfl, rfl⟩))
    (fun os started H enc _ => lifted os started H enc)

theorem proved : Rows.FnLinkedToAfterWithPlaceSaid := over
#print axioms proved
end Go.Proofs.Qxb6618035a.fnLinkedToAfterWithPlace
