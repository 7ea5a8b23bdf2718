/-
  No cell of these rows narrows 'for every input' (looked for: loops, veiled, ifaces, maps, wideKeys, modest, calm, conditions, laid).
  DERIVED. THE GIVEN ROWS OF THIS SEAT. 6 by the template 'for every input the law returns true; each argument reads behind the call as it read before'; 0 by the template 'total and deterministic' (their statements: Qxb6617931aTotals.lean).
  GIVEN WITH THE SEED: the statements are not yours to turn. If you find one false, say at which input.
  Laid BY PROGRAM, IN A SANDBOX (cutbox-rows.mjs): the forced cells as the released guide's own fill.sh prints them over the translation f71122bcc34ed861… (all of the seat's roots in one cut). By AI agents, Wed Nov 11 2026. No macro, syntax, notation, axiom, sorry.
-/
import Derived.Test.Qxb6617931aChecked
import GoSem.Claim
import GoSem.ClaimJoined
import GoSem.ClaimMapViews
import Derived.JoinedTies
import Derived.KernelRfl
namespace Go.Proofs.Qxb6617931a
/- THE CELL 'sum', in the pinned program and in every row, IS THE sha256 OF THE DUMP (.gsa) THAT Qxb6617931aProg.lean LOADS. Nothing in Lean hashes anything: it is a label: what it is worth is what the hold of that sum in a sandbox is worth. -/
noncomputable def Try.pinned : Pinned := { name := "qxb6617931a", sum := "f71122bcc34ed8611ce3ca5656af63b1f9d2c52945db5e684d8ac433d42138d0", checked := Try.checked }
namespace Rows
def none {H : Type} : Left H := { results := [], args := [] }

/-- 'zzlaws_pkg_rfc3339_b1.FnNumberReadsDigitsAsDecimalValue': WHATEVER THE INPUT: true; the input reads as it did. -/
def fnNumberReadsDigitsAsDecimalValueSpec : ChangeSpec := { name := "fnNumberReadsDigitsAsDecimalValue", fn := fun _ => fun
  | [d1, d2, d3, d4, d5] => { results := [.lit (.bool true)], args := [d1, d2, d3, d4, d5] }
  | _ => none }
def fnNumberReadsDigitsAsDecimalValueRow : OpenClaim := { program := "qxb6617931a", sum := "f71122bcc34ed8611ce3ca5656af63b1f9d2c52945db5e684d8ac433d42138d0", func := "example.com/bill-by-usage/bill-by-usage/zzlaws_pkg_rfc3339_b1.FnNumberReadsDigitsAsDecimalValue", spec := "fnNumberReadsDigitsAsDecimalValue", apart := false }
def FnNumberReadsDigitsAsDecimalValueSaid : Prop := fnNumberReadsDigitsAsDecimalValueRow.holds Try.pinned (OpenSpec.ofChange fnNumberReadsDigitsAsDecimalValueSpec)

/-- ITS FALSE NEIGHBOUR: 'it returns false'. Refute it at one input. -/
def fnNumberReadsDigitsAsDecimalValueWrong : ChangeSpec := { name := "fnNumberReadsDigitsAsDecimalValue", fn := fun _ => fun
  | [d1, d2, d3, d4, d5] => { results := [.lit (.bool false)], args := [d1, d2, d3, d4, d5] }
  | _ => none }
def FnNumberReadsDigitsAsDecimalValueWrongFalsely : Prop := fnNumberReadsDigitsAsDecimalValueRow.holds Try.pinned (OpenSpec.ofChange fnNumberReadsDigitsAsDecimalValueWrong)

/-- 'zzlaws_pkg_rfc3339_b1.FnFractionIsNanosecondsOfItsDigits': WHATEVER THE INPUT: true; the input reads as it did. -/
def fnFractionIsNanosecondsOfItsDigitsSpec : ChangeSpec := { name := "fnFractionIsNanosecondsOfItsDigits", fn := fun _ => fun
  | [d1, d2] => { results := [.lit (.bool true)], args := [d1, d2] }
  | _ => none }
def fnFractionIsNanosecondsOfItsDigitsRow : OpenClaim := { program := "qxb6617931a", sum := "f71122bcc34ed8611ce3ca5656af63b1f9d2c52945db5e684d8ac433d42138d0", func := "example.com/bill-by-usage/bill-by-usage/zzlaws_pkg_rfc3339_b1.FnFractionIsNanosecondsOfItsDigits", spec := "fnFractionIsNanosecondsOfItsDigits", apart := false }
def FnFractionIsNanosecondsOfItsDigitsSaid : Prop := fnFractionIsNanosecondsOfItsDigitsRow.holds Try.pinned (OpenSpec.ofChange fnFractionIsNanosecondsOfItsDigitsSpec)

/-- ITS FALSE NEIGHBOUR: 'it returns false'. Refute it at one input. -/
def fnFractionIsNanosecondsOfItsDigitsWrong : ChangeSpec := { name := "fnFractionIsNanosecondsOfItsDigits", fn := fun _ => fun
  | [d1, d2] => { results := [.lit (.bool false)], args := [d1, d2] }
  | _ => none }
def FnFractionIsNanosecondsOfItsDigitsWrongFalsely : Prop := fnFractionIsNanosecondsOfItsDigitsRow.holds Try.pinned (OpenSpec.ofChange fnFractionIsNanosecondsOfItsDigitsWrong)

/-- 'zzlaws_pkg_rfc3339_b1.FnFractionAgreesWithSeparatorAndNumber': WHATEVER THE INPUT: true; the input reads as it did. -/
def fnFractionAgreesWithSeparatorAndNumberSpec : ChangeSpec := { name := "fnFractionAgreesWithSeparatorAndNumber", fn := fun _ => fun
  | [d1, d2] => { results := [.lit (.bool true)], args := [d1, d2] }
  | _ => none }
def fnFractionAgreesWithSeparatorAndNumberRow : OpenClaim := { program := "qxb6617931a", sum := "f71122bcc34ed8611ce3ca5656af63b1f9d2c52945db5e684d8ac433d42138d0", func := "example.com/bill-by-usage/bill-by-usage/zzlaws_pkg_rfc3339_b1.FnFractionAgreesWithSeparatorAndNumber", spec := "fnFractionAgreesWithSeparatorAndNumber", inPlace := ["internal/bytealg.IndexByteString"], apart := false }
def FnFractionAgreesWithSeparatorAndNumberSaid : Prop := fnFractionAgreesWithSeparatorAndNumberRow.holds Try.pinned (OpenSpec.ofChange fnFractionAgreesWithSeparatorAndNumberSpec)

/-- ITS FALSE NEIGHBOUR: 'it returns false'. Refute it at one input. -/
def fnFractionAgreesWithSeparatorAndNumberWrong : ChangeSpec := { name := "fnFractionAgreesWithSeparatorAndNumber", fn := fun _ => fun
  | [d1, d2] => { results := [.lit (.bool false)], args := [d1, d2] }
  | _ => none }
def FnFractionAgreesWithSeparatorAndNumberWrongFalsely : Prop := fnFractionAgreesWithSeparatorAndNumberRow.holds Try.pinned (OpenSpec.ofChange fnFractionAgreesWithSeparatorAndNumberWrong)

/-- 'zzlaws_pkg_rfc3339_b1.FnSeparatorAllowedIsAUnionAtAnyCut': WHATEVER THE INPUT: true; the input reads as it did. -/
def fnSeparatorAllowedIsAUnionAtAnyCutSpec : ChangeSpec := { name := "fnSeparatorAllowedIsAUnionAtAnyCut", fn := fun _ => fun
  | [d1, d2, d3, d4] => { results := [.lit (.bool true)], args := [d1, d2, d3, d4] }
  | _ => none }
def fnSeparatorAllowedIsAUnionAtAnyCutRow : OpenClaim := { program := "qxb6617931a", sum := "f71122bcc34ed8611ce3ca5656af63b1f9d2c52945db5e684d8ac433d42138d0", func := "example.com/bill-by-usage/bill-by-usage/zzlaws_pkg_rfc3339_b1.FnSeparatorAllowedIsAUnionAtAnyCut", spec := "fnSeparatorAllowedIsAUnionAtAnyCut", inPlace := ["internal/bytealg.IndexByteString"], apart := false }
def FnSeparatorAllowedIsAUnionAtAnyCutSaid : Prop := fnSeparatorAllowedIsAUnionAtAnyCutRow.holds Try.pinned (OpenSpec.ofChange fnSeparatorAllowedIsAUnionAtAnyCutSpec)

/-- ITS FALSE NEIGHBOUR: 'it returns false'. Refute it at one input. -/
def fnSeparatorAllowedIsAUnionAtAnyCutWrong : ChangeSpec := { name := "fnSeparatorAllowedIsAUnionAtAnyCut", fn := fun _ => fun
  | [d1, d2, d3, d4] => { results := [.lit (.bool false)], args := [d1, d2, d3, d4] }
  | _ => none }
def FnSeparatorAllowedIsAUnionAtAnyCutWrongFalsely : Prop := fnSeparatorAllowedIsAUnionAtAnyCutRow.holds Try.pinned (OpenSpec.ofChange fnSeparatorAllowedIsAUnionAtAnyCutWrong)

/-- 'zzlaws_pkg_rfc3339_b1.FnSeparatorOfDigitsIsNumberOfOneDigit': WHATEVER THE INPUT: true; the input reads as it did. -/
def fnSeparatorOfDigitsIsNumberOfOneDigitSpec : ChangeSpec := { name := "fnSeparatorOfDigitsIsNumberOfOneDigit", fn := fun _ => fun
  | [d1, d2] => { results := [.lit (.bool true)], args := [d1, d2] }
  | _ => none }
def fnSeparatorOfDigitsIsNumberOfOneDigitRow : OpenClaim := { program := "qxb6617931a", sum := "f71122bcc34ed8611ce3ca5656af63b1f9d2c52945db5e684d8ac433d42138d0", func := "example.com/bill-by-usage/bill-by-usage/zzlaws_pkg_rfc3339_b1.FnSeparatorOfDigitsIsNumberOfOneDigit", spec := "fnSeparatorOfDigitsIsNumberOfOneDigit", inPlace := ["internal/bytealg.IndexByteString"], apart := false }
def FnSeparatorOfDigitsIsNumberOfOneDigitSaid : Prop := fnSeparatorOfDigitsIsNumberOfOneDigitRow.holds Try.pinned (OpenSpec.ofChange fnSeparatorOfDigitsIsNumberOfOneDigitSpec)

/-- ITS FALSE NEIGHBOUR: 'it returns false'. Refute it at one input. -/
def fnSeparatorOfDigitsIsNumberOfOneDigitWrong : ChangeSpec := { name := "fnSeparatorOfDigitsIsNumberOfOneDigit", fn := fun _ => fun
  | [d1, d2] => { results := [.lit (.bool false)], args := [d1, d2] }
  | _ => none }
def FnSeparatorOfDigitsIsNumberOfOneDigitWrongFalsely : Prop := fnSeparatorOfDigitsIsNumberOfOneDigitRow.holds Try.pinned (OpenSpec.ofChange fnSeparatorOfDigitsIsNumberOfOneDigitWrong)

/-- 'zzlaws_pkg_rfc3339_b1.FnNumberSplitsAtAnyCut': WHATEVER THE INPUT: true; the input reads as it did. -/
def fnNumberSplitsAtAnyCutSpec : ChangeSpec := { name := "fnNumberSplitsAtAnyCut", fn := fun _ => fun
  | [d1, d2, d3, d4] => { results := [.lit (.bool true)], args := [d1, d2, d3, d4] }
  | _ => none }
def fnNumberSplitsAtAnyCutRow : OpenClaim := { program := "qxb6617931a", sum := "f71122bcc34ed8611ce3ca5656af63b1f9d2c52945db5e684d8ac433d42138d0", func := "example.com/bill-by-usage/bill-by-usage/zzlaws_pkg_rfc3339_b1.FnNumberSplitsAtAnyCut", spec := "fnNumberSplitsAtAnyCut", apart := false }
def FnNumberSplitsAtAnyCutSaid : Prop := fnNumberSplitsAtAnyCutRow.holds Try.pinned (OpenSpec.ofChange fnNumberSplitsAtAnyCutSpec)

/-- ITS FALSE NEIGHBOUR: 'it returns false'. Refute it at one input. -/
def fnNumberSplitsAtAnyCutWrong : ChangeSpec := { name := "fnNumberSplitsAtAnyCut", fn := fun _ => fun
  | [d1, d2, d3, d4] => { results := [.lit (.bool false)], args := [d1, d2, d3, d4] }
  | _ => none }
def FnNumberSplitsAtAnyCutWrongFalsely : Prop := fnNumberSplitsAtAnyCutRow.holds Try.pinned (OpenSpec.ofChange fnNumberSplitsAtAnyCutWrong)

end Rows
end Go.Proofs.Qxb6617931a
