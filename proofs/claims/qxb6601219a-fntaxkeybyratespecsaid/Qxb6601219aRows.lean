/-
  No cell of these rows narrows 'for every input' (looked for: loops, veiled, ifaces, maps, wideKeys, modest, calm, conditions, laid).
  DERIVED. THE GIVEN ROWS OF THIS SEAT. 4 by the template 'for every input the law returns true; each argument reads behind the call as it read before'; 0 by the template 'total and deterministic' (their statements: Qxb6601219aTotals.lean).
  GIVEN WITH THE SEED: the statements are not yours to turn. If you find one false, say at which input.
  Laid BY PROGRAM, IN A SANDBOX (cutbox-rows.mjs): the forced cells as the released guide's own fill.sh prints them over the translation 14ebe3cb842b7c29… (all of the seat's roots in one cut). By AI agents, Wed Nov 11 2026. No macro, syntax, notation, axiom, sorry.
-/
import Derived.Test.Qxb6601219aChecked
import GoSem.Claim
import GoSem.ClaimJoined
import GoSem.ClaimMapViews
import Derived.JoinedTies
import Derived.KernelRfl
namespace Go.Proofs.Qxb6601219a
/- THE CELL 'sum', in the pinned program and in every row, IS THE sha256 OF THE DUMP (.gsa) THAT Qxb6601219aProg.lean LOADS. Nothing in Lean hashes anything: it is a label: what it is worth is what the hold of that sum in a sandbox is worth. -/
noncomputable def Try.pinned : Pinned := { name := "qxb6601219a", sum := "14ebe3cb842b7c295ef1e0d2717bbb17dab2e0f2dcf011129f9a2c86390ae0e3", checked := Try.checked }
namespace Rows
def none {H : Type} : Left H := { results := [], args := [] }

/-- 'zzlaws_root_b1.FnFormatDigitsCaseTable': WHATEVER THE INPUT: true; the input reads as it did. -/
def fnFormatDigitsCaseTableSpec : ChangeSpec := { name := "fnFormatDigitsCaseTable", fn := fun _ => fun
  | [d1, d2, d3, d4] => { results := [.lit (.bool true)], args := [d1, d2, d3, d4] }
  | _ => none }
def fnFormatDigitsCaseTableRow : OpenClaim := { program := "qxb6601219a", sum := "14ebe3cb842b7c295ef1e0d2717bbb17dab2e0f2dcf011129f9a2c86390ae0e3", func := "example.com/satzwerk/satzwerk/zzlaws_root_b1.FnFormatDigitsCaseTable", spec := "fnFormatDigitsCaseTable", apart := false }
def FnFormatDigitsCaseTableSaid : Prop := fnFormatDigitsCaseTableRow.holds Try.pinned (OpenSpec.ofChange fnFormatDigitsCaseTableSpec)

/-- ITS FALSE NEIGHBOUR: 'it returns false'. Refute it at one input. -/
def fnFormatDigitsCaseTableWrong : ChangeSpec := { name := "fnFormatDigitsCaseTable", fn := fun _ => fun
  | [d1, d2, d3, d4] => { results := [.lit (.bool false)], args := [d1, d2, d3, d4] }
  | _ => none }
def FnFormatDigitsCaseTableWrongFalsely : Prop := fnFormatDigitsCaseTableRow.holds Try.pinned (OpenSpec.ofChange fnFormatDigitsCaseTableWrong)

/-- 'zzlaws_root_b1.FnFormatDigitsLeadingZero': WHATEVER THE INPUT: true; the input reads as it did. -/
def fnFormatDigitsLeadingZeroSpec : ChangeSpec := { name := "fnFormatDigitsLeadingZero", fn := fun _ => fun
  | [d1, d2, d3, d4] => { results := [.lit (.bool true)], args := [d1, d2, d3, d4] }
  | _ => none }
def fnFormatDigitsLeadingZeroRow : OpenClaim := { program := "qxb6601219a", sum := "14ebe3cb842b7c295ef1e0d2717bbb17dab2e0f2dcf011129f9a2c86390ae0e3", func := "example.com/satzwerk/satzwerk/zzlaws_root_b1.FnFormatDigitsLeadingZero", spec := "fnFormatDigitsLeadingZero", apart := false }
def FnFormatDigitsLeadingZeroSaid : Prop := fnFormatDigitsLeadingZeroRow.holds Try.pinned (OpenSpec.ofChange fnFormatDigitsLeadingZeroSpec)

/-- ITS FALSE NEIGHBOUR: 'it returns false'. Refute it at one input. -/
def fnFormatDigitsLeadingZeroWrong : ChangeSpec := { name := "fnFormatDigitsLeadingZero", fn := fun _ => fun
  | [d1, d2, d3, d4] => { results := [.lit (.bool false)], args := [d1, d2, d3, d4] }
  | _ => none }
def FnFormatDigitsLeadingZeroWrongFalsely : Prop := fnFormatDigitsLeadingZeroRow.holds Try.pinned (OpenSpec.ofChange fnFormatDigitsLeadingZeroWrong)

/-- 'zzlaws_root_b1.FnTaxKeyByRateSpec': WHATEVER THE INPUT: true; the input reads as it did. -/
def fnTaxKeyByRateSpecSpec : ChangeSpec := { name := "fnTaxKeyByRateSpec", fn := fun _ => fun
  | [d1, d2, d3] => { results := [.lit (.bool true)], args := [d1, d2, d3] }
  | _ => none }
def fnTaxKeyByRateSpecRow : OpenClaim := { program := "qxb6601219a", sum := "14ebe3cb842b7c295ef1e0d2717bbb17dab2e0f2dcf011129f9a2c86390ae0e3", func := "example.com/satzwerk/satzwerk/zzlaws_root_b1.FnTaxKeyByRateSpec", spec := "fnTaxKeyByRateSpec", apart := false }
def FnTaxKeyByRateSpecSaid : Prop := fnTaxKeyByRateSpecRow.holds Try.pinned (OpenSpec.ofChange fnTaxKeyByRateSpecSpec)

/-- ITS FALSE NEIGHBOUR: 'it returns false'. Refute it at one input. -/
def fnTaxKeyByRateSpecWrong : ChangeSpec := { name := "fnTaxKeyByRateSpec", fn := fun _ => fun
  | [d1, d2, d3] => { results := [.lit (.bool false)], args := [d1, d2, d3] }
  | _ => none }
def FnTaxKeyByRateSpecWrongFalsely : Prop := fnTaxKeyByRateSpecRow.holds Try.pinned (OpenSpec.ofChange fnTaxKeyByRateSpecWrong)

/-- 'zzlaws_root_b1.FnTaxKeyByRateConcat': WHATEVER THE INPUT: true; the input reads as it did. -/
def fnTaxKeyByRateConcatSpec : ChangeSpec := { name := "fnTaxKeyByRateConcat", fn := fun _ => fun
  | [d1, d2, d3, d4] => { results := [.lit (.bool true)], args := [d1, d2, d3, d4] }
  | _ => none }
def fnTaxKeyByRateConcatRow : OpenClaim := { program := "qxb6601219a", sum := "14ebe3cb842b7c295ef1e0d2717bbb17dab2e0f2dcf011129f9a2c86390ae0e3", func := "example.com/satzwerk/satzwerk/zzlaws_root_b1.FnTaxKeyByRateConcat", spec := "fnTaxKeyByRateConcat", apart := false }
def FnTaxKeyByRateConcatSaid : Prop := fnTaxKeyByRateConcatRow.holds Try.pinned (OpenSpec.ofChange fnTaxKeyByRateConcatSpec)

/-- ITS FALSE NEIGHBOUR: 'it returns false'. Refute it at one input. -/
def fnTaxKeyByRateConcatWrong : ChangeSpec := { name := "fnTaxKeyByRateConcat", fn := fun _ => fun
  | [d1, d2, d3, d4] => { results := [.lit (.bool false)], args := [d1, d2, d3, d4] }
  | _ => none }
def FnTaxKeyByRateConcatWrongFalsely : Prop := fnTaxKeyByRateConcatRow.holds Try.pinned (OpenSpec.ofChange fnTaxKeyByRateConcatWrong)

end Rows
end Go.Proofs.Qxb6601219a
