/-
  No cell of these rows narrows 'for every input' (looked for: loops, veiled, ifaces, maps, wideKeys, modest, calm, conditions, laid).
  DERIVED. THE GIVEN ROWS OF THIS SEAT. 5 by the template 'for every input the law returns true; each argument reads behind the call as it read before'; 0 by the template 'total and deterministic' (their statements: Qxb6618000aTotals.lean).
  GIVEN WITH THE SEED: the statements are not yours to turn. If you find one false, say at which input.
  Laid BY PROGRAM, IN A SANDBOX (cutbox-rows.mjs): the forced cells as the released guide's own fill.sh prints them over the translation 73a0822aa7eed0f4… (all of the seat's roots in one cut). By AI agents, Wed Nov 11 2026. No macro, syntax, notation, axiom, sorry.
-/
import Derived.Test.Qxb6618000aChecked
import GoSem.Claim
import GoSem.ClaimJoined
import GoSem.ClaimMapViews
import Derived.JoinedTies
import Derived.KernelRfl
namespace Go.Proofs.Qxb6618000a
/- THE CELL 'sum', in the pinned program and in every row, IS THE sha256 OF THE DUMP (.gsa) THAT Qxb6618000aProg.lean LOADS. Nothing in Lean hashes anything: it is a label: what it is worth is what the hold of that sum in a sandbox is worth. -/
noncomputable def Try.pinned : Pinned := { name := "qxb6618000a", sum := "73a0822aa7eed0f4b9afd78cb5eeb3176f049a14ee6348cb0f347c4a5a99e18d", checked := Try.checked }
namespace Rows
def none {H : Type} : Left H := { results := [], args := [] }

/-- 'zzlaws_internal_rawjson_b1.FnCutIsBlankingOfDeepPairs': WHATEVER THE INPUT: true; the input reads as it did. -/
def fnCutIsBlankingOfDeepPairsSpec : ChangeSpec := { name := "fnCutIsBlankingOfDeepPairs", fn := fun _ => fun
  | [d] => { results := [.lit (.bool true)], args := [d] }
  | _ => none }
def fnCutIsBlankingOfDeepPairsRow : OpenClaim := { program := "qxb6618000a", sum := "73a0822aa7eed0f4b9afd78cb5eeb3176f049a14ee6348cb0f347c4a5a99e18d", func := "example.com/tool-vetter/tool-vetter/zzlaws_internal_rawjson_b1.FnCutIsBlankingOfDeepPairs", spec := "fnCutIsBlankingOfDeepPairs", apart := false }
def FnCutIsBlankingOfDeepPairsSaid : Prop := fnCutIsBlankingOfDeepPairsRow.holds Try.pinned (OpenSpec.ofChange fnCutIsBlankingOfDeepPairsSpec)

/-- ITS FALSE NEIGHBOUR: 'it returns false'. Refute it at one input. -/
def fnCutIsBlankingOfDeepPairsWrong : ChangeSpec := { name := "fnCutIsBlankingOfDeepPairs", fn := fun _ => fun
  | [d] => { results := [.lit (.bool false)], args := [d] }
  | _ => none }
def FnCutIsBlankingOfDeepPairsWrongFalsely : Prop := fnCutIsBlankingOfDeepPairsRow.holds Try.pinned (OpenSpec.ofChange fnCutIsBlankingOfDeepPairsWrong)

/-- 'zzlaws_internal_rawjson_b1.FnCutOfJoinedTextIsTheJoinedCuts': WHATEVER THE INPUT: true; the input reads as it did. -/
def fnCutOfJoinedTextIsTheJoinedCutsSpec : ChangeSpec := { name := "fnCutOfJoinedTextIsTheJoinedCuts", fn := fun _ => fun
  | [d1, d2] => { results := [.lit (.bool true)], args := [d1, d2] }
  | _ => none }
def fnCutOfJoinedTextIsTheJoinedCutsRow : OpenClaim := { program := "qxb6618000a", sum := "73a0822aa7eed0f4b9afd78cb5eeb3176f049a14ee6348cb0f347c4a5a99e18d", func := "example.com/tool-vetter/tool-vetter/zzlaws_internal_rawjson_b1.FnCutOfJoinedTextIsTheJoinedCuts", spec := "fnCutOfJoinedTextIsTheJoinedCuts", apart := false }
def FnCutOfJoinedTextIsTheJoinedCutsSaid : Prop := fnCutOfJoinedTextIsTheJoinedCutsRow.holds Try.pinned (OpenSpec.ofChange fnCutOfJoinedTextIsTheJoinedCutsSpec)

/-- ITS FALSE NEIGHBOUR: 'it returns false'. Refute it at one input. -/
def fnCutOfJoinedTextIsTheJoinedCutsWrong : ChangeSpec := { name := "fnCutOfJoinedTextIsTheJoinedCuts", fn := fun _ => fun
  | [d1, d2] => { results := [.lit (.bool false)], args := [d1, d2] }
  | _ => none }
def FnCutOfJoinedTextIsTheJoinedCutsWrongFalsely : Prop := fnCutOfJoinedTextIsTheJoinedCutsRow.holds Try.pinned (OpenSpec.ofChange fnCutOfJoinedTextIsTheJoinedCutsWrong)

/-- 'zzlaws_internal_rawjson_b1.FnCutTwiceIsCutOnce': WHATEVER THE INPUT: true; the input reads as it did. -/
def fnCutTwiceIsCutOnceSpec : ChangeSpec := { name := "fnCutTwiceIsCutOnce", fn := fun _ => fun
  | [d] => { results := [.lit (.bool true)], args := [d] }
  | _ => none }
def fnCutTwiceIsCutOnceRow : OpenClaim := { program := "qxb6618000a", sum := "73a0822aa7eed0f4b9afd78cb5eeb3176f049a14ee6348cb0f347c4a5a99e18d", func := "example.com/tool-vetter/tool-vetter/zzlaws_internal_rawjson_b1.FnCutTwiceIsCutOnce", spec := "fnCutTwiceIsCutOnce", apart := false }
def FnCutTwiceIsCutOnceSaid : Prop := fnCutTwiceIsCutOnceRow.holds Try.pinned (OpenSpec.ofChange fnCutTwiceIsCutOnceSpec)

/-- ITS FALSE NEIGHBOUR: 'it returns false'. Refute it at one input. -/
def fnCutTwiceIsCutOnceWrong : ChangeSpec := { name := "fnCutTwiceIsCutOnce", fn := fun _ => fun
  | [d] => { results := [.lit (.bool false)], args := [d] }
  | _ => none }
def FnCutTwiceIsCutOnceWrongFalsely : Prop := fnCutTwiceIsCutOnceRow.holds Try.pinned (OpenSpec.ofChange fnCutTwiceIsCutOnceWrong)

/-- 'zzlaws_internal_rawjson_b1.FnClosingQuoteIsFirstUnescapedAndShifts': WHATEVER THE INPUT: true; the input reads as it did. -/
def fnClosingQuoteIsFirstUnescapedAndShiftsSpec : ChangeSpec := { name := "fnClosingQuoteIsFirstUnescapedAndShifts", fn := fun _ => fun
  | [d1, d2, d3] => { results := [.lit (.bool true)], args := [d1, d2, d3] }
  | _ => none }
def fnClosingQuoteIsFirstUnescapedAndShiftsRow : OpenClaim := { program := "qxb6618000a", sum := "73a0822aa7eed0f4b9afd78cb5eeb3176f049a14ee6348cb0f347c4a5a99e18d", func := "example.com/tool-vetter/tool-vetter/zzlaws_internal_rawjson_b1.FnClosingQuoteIsFirstUnescapedAndShifts", spec := "fnClosingQuoteIsFirstUnescapedAndShifts", apart := false }
def FnClosingQuoteIsFirstUnescapedAndShiftsSaid : Prop := fnClosingQuoteIsFirstUnescapedAndShiftsRow.holds Try.pinned (OpenSpec.ofChange fnClosingQuoteIsFirstUnescapedAndShiftsSpec)

/-- ITS FALSE NEIGHBOUR: 'it returns false'. Refute it at one input. -/
def fnClosingQuoteIsFirstUnescapedAndShiftsWrong : ChangeSpec := { name := "fnClosingQuoteIsFirstUnescapedAndShifts", fn := fun _ => fun
  | [d1, d2, d3] => { results := [.lit (.bool false)], args := [d1, d2, d3] }
  | _ => none }
def FnClosingQuoteIsFirstUnescapedAndShiftsWrongFalsely : Prop := fnClosingQuoteIsFirstUnescapedAndShiftsRow.holds Try.pinned (OpenSpec.ofChange fnClosingQuoteIsFirstUnescapedAndShiftsWrong)

/-- 'zzlaws_internal_rawjson_b1.FnClosingQuoteKeepsWhatItFoundWhenTextGrows': WHATEVER THE INPUT: true; the input reads as it did. -/
def fnClosingQuoteKeepsWhatItFoundWhenTextGrowsSpec : ChangeSpec := { name := "fnClosingQuoteKeepsWhatItFoundWhenTextGrows", fn := fun _ => fun
  | [d1, d2, d3] => { results := [.lit (.bool true)], args := [d1, d2, d3] }
  | _ => none }
def fnClosingQuoteKeepsWhatItFoundWhenTextGrowsRow : OpenClaim := { program := "qxb6618000a", sum := "73a0822aa7eed0f4b9afd78cb5eeb3176f049a14ee6348cb0f347c4a5a99e18d", func := "example.com/tool-vetter/tool-vetter/zzlaws_internal_rawjson_b1.FnClosingQuoteKeepsWhatItFoundWhenTextGrows", spec := "fnClosingQuoteKeepsWhatItFoundWhenTextGrows", apart := false }
def FnClosingQuoteKeepsWhatItFoundWhenTextGrowsSaid : Prop := fnClosingQuoteKeepsWhatItFoundWhenTextGrowsRow.holds Try.pinned (OpenSpec.ofChange fnClosingQuoteKeepsWhatItFoundWhenTextGrowsSpec)

/-- ITS FALSE NEIGHBOUR: 'it returns false'. Refute it at one input. -/
def fnClosingQuoteKeepsWhatItFoundWhenTextGrowsWrong : ChangeSpec := { name := "fnClosingQuoteKeepsWhatItFoundWhenTextGrows", fn := fun _ => fun
  | [d1, d2, d3] => { results := [.lit (.bool false)], args := [d1, d2, d3] }
  | _ => none }
def FnClosingQuoteKeepsWhatItFoundWhenTextGrowsWrongFalsely : Prop := fnClosingQuoteKeepsWhatItFoundWhenTextGrowsRow.holds Try.pinned (OpenSpec.ofChange fnClosingQuoteKeepsWhatItFoundWhenTextGrowsWrong)

end Rows
end Go.Proofs.Qxb6618000a
