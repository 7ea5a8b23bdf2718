/-
  No cell of these rows narrows 'for every input' (looked for: loops, veiled, ifaces, maps, wideKeys, modest, calm, conditions, laid).
  DERIVED. THE GIVEN ROWS OF THIS SEAT. 3 by the template 'for every input the law returns true; each argument reads behind the call as it read before'; 0 by the template 'total and deterministic' (their statements: Qxb6618035aTotals.lean).
  GIVEN WITH THE SEED: the statements are not yours to turn. If you find one false, say at which input.
  Laid BY PROGRAM, IN A SANDBOX (cutbox-rows.mjs): the forced cells as the released guide's own fill.sh prints them over the translation 470c0b1ea7d5601f… (all of the seat's roots in one cut). By AI agents, Wed Nov 11 2026. No macro, syntax, notation, axiom, sorry.
-/
import Derived.Test.Qxb6618035aChecked
import GoSem.Claim
import GoSem.ClaimJoined
import GoSem.ClaimMapViews
import Derived.JoinedTies
import Derived.KernelRfl
namespace Go.Proofs.Qxb6618035a
/- THE CELL 'sum', in the pinned program and in every row, IS THE sha256 OF THE DUMP (.gsa) THAT Qxb6618035aProg.lean LOADS. Nothing in Lean hashes anything: it is a label: what it is worth is what the hold of that sum in a sandbox is worth. -/
noncomputable def Try.pinned : Pinned := { name := "qxb6618035a", sum := "470c0b1ea7d5601f4febda99f8ebb53a9aad58aaec7d7b97031f0325d12f9cf6", checked := Try.checked }
namespace Rows
def none {H : Type} : Left H := { results := [], args := [] }

/-- 'zzlaws_root_b1.FnWithPlaceFoldKeepsFirstOccurrences': WHATEVER THE INPUT: true; the input reads as it did. -/
def fnWithPlaceFoldKeepsFirstOccurrencesSpec : ChangeSpec := { name := "fnWithPlaceFoldKeepsFirstOccurrences", fn := fun _ => fun
  | [d1, d2] => { results := [.lit (.bool true)], args := [d1, d2] }
  | _ => none }
def fnWithPlaceFoldKeepsFirstOccurrencesRow : OpenClaim := { program := "qxb6618035a", sum := "470c0b1ea7d5601f4febda99f8ebb53a9aad58aaec7d7b97031f0325d12f9cf6", func := "example.com/structs-to-tables/structs-to-tables/zzlaws_root_b1.FnWithPlaceFoldKeepsFirstOccurrences", spec := "fnWithPlaceFoldKeepsFirstOccurrences", apart := false }
def FnWithPlaceFoldKeepsFirstOccurrencesSaid : Prop := fnWithPlaceFoldKeepsFirstOccurrencesRow.holds Try.pinned (OpenSpec.ofChange fnWithPlaceFoldKeepsFirstOccurrencesSpec)

/-- ITS FALSE NEIGHBOUR: 'it returns false'. Refute it at one input. -/
def fnWithPlaceFoldKeepsFirstOccurrencesWrong : ChangeSpec := { name := "fnWithPlaceFoldKeepsFirstOccurrences", fn := fun _ => fun
  | [d1, d2] => { results := [.lit (.bool false)], args := [d1, d2] }
  | _ => none }
def FnWithPlaceFoldKeepsFirstOccurrencesWrongFalsely : Prop := fnWithPlaceFoldKeepsFirstOccurrencesRow.holds Try.pinned (OpenSpec.ofChange fnWithPlaceFoldKeepsFirstOccurrencesWrong)

/-- 'zzlaws_root_b1.FnLinkedToSplitsAtAnyCut': WHATEVER THE INPUT: true; the input reads as it did. -/
def fnLinkedToSplitsAtAnyCutSpec : ChangeSpec := { name := "fnLinkedToSplitsAtAnyCut", fn := fun _ => fun
  | [d1, d2, d3] => { results := [.lit (.bool true)], args := [d1, d2, d3] }
  | _ => none }
def fnLinkedToSplitsAtAnyCutRow : OpenClaim := { program := "qxb6618035a", sum := "470c0b1ea7d5601f4febda99f8ebb53a9aad58aaec7d7b97031f0325d12f9cf6", func := "example.com/structs-to-tables/structs-to-tables/zzlaws_root_b1.FnLinkedToSplitsAtAnyCut", spec := "fnLinkedToSplitsAtAnyCut", apart := false }
def FnLinkedToSplitsAtAnyCutSaid : Prop := fnLinkedToSplitsAtAnyCutRow.holds Try.pinned (OpenSpec.ofChange fnLinkedToSplitsAtAnyCutSpec)

/-- ITS FALSE NEIGHBOUR: 'it returns false'. Refute it at one input. -/
def fnLinkedToSplitsAtAnyCutWrong : ChangeSpec := { name := "fnLinkedToSplitsAtAnyCut", fn := fun _ => fun
  | [d1, d2, d3] => { results := [.lit (.bool false)], args := [d1, d2, d3] }
  | _ => none }
def FnLinkedToSplitsAtAnyCutWrongFalsely : Prop := fnLinkedToSplitsAtAnyCutRow.holds Try.pinned (OpenSpec.ofChange fnLinkedToSplitsAtAnyCutWrong)

/-- 'zzlaws_root_b1.FnLinkedToAfterWithPlace': WHATEVER THE INPUT: true; the input reads as it did. -/
def fnLinkedToAfterWithPlaceSpec : ChangeSpec := { name := "fnLinkedToAfterWithPlace", fn := fun _ => fun
  | [d1, d2, d3] => { results := [.lit (.bool true)], args := [d1, d2, d3] }
  | _ => none }
def fnLinkedToAfterWithPlaceRow : OpenClaim := { program := "qxb6618035a", sum := "470c0b1ea7d5601f4febda99f8ebb53a9aad58aaec7d7b97031f0325d12f9cf6", func := "example.com/structs-to-tables/structs-to-tables/zzlaws_root_b1.FnLinkedToAfterWithPlace", spec := "fnLinkedToAfterWithPlace", apart := false }
def FnLinkedToAfterWithPlaceSaid : Prop := fnLinkedToAfterWithPlaceRow.holds Try.pinned (OpenSpec.ofChange fnLinkedToAfterWithPlaceSpec)

/-- ITS FALSE NEIGHBOUR: 'it returns false'. Refute it at one input. -/
def fnLinkedToAfterWithPlaceWrong : ChangeSpec := { name := "fnLinkedToAfterWithPlace", fn := fun _ => fun
  | [d1, d2, d3] => { results := [.lit (.bool false)], args := [d1, d2, d3] }
  | _ => none }
def FnLinkedToAfterWithPlaceWrongFalsely : Prop := fnLinkedToAfterWithPlaceRow.holds Try.pinned (OpenSpec.ofChange fnLinkedToAfterWithPlaceWrong)

end Rows
end Go.Proofs.Qxb6618035a
