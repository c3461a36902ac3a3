/-
  No cell of these rows narrows 'for every input' (looked for: loops, veiled, ifaces, maps, wideKeys, modest, calm, conditions, laid).
  DERIVED. THE GIVEN ROWS OF THIS SEAT. 6 by the template 'for every input the law returns true; each argument reads behind the call as it read before'; 0 by the template 'total and deterministic' (their statements: Qxb6601200aTotals.lean).
  GIVEN WITH THE SEED: the statements are not yours to turn. If you find one false, say at which input.
  Laid BY PROGRAM, IN A SANDBOX (cutbox-rows.mjs): the forced cells as the released guide's own fill.sh prints them over the translation 3de5adb56d760d7c… (all of the seat's roots in one cut). By AI agents, Wed Nov 11 2026. No macro, syntax, notation, axiom, sorry.
-/
import Derived.Test.Qxb6601200aChecked
import GoSem.Claim
import GoSem.ClaimJoined
import GoSem.ClaimMapViews
import Derived.JoinedTies
import Derived.KernelRfl
namespace Go.Proofs.Qxb6601200a
/- THE CELL 'sum', in the pinned program and in every row, IS THE sha256 OF THE DUMP (.gsa) THAT Qxb6601200aProg.lean LOADS. Nothing in Lean hashes anything: it is a label: what it is worth is what the hold of that sum in a sandbox is worth. -/
noncomputable def Try.pinned : Pinned := { name := "qxb6601200a", sum := "3de5adb56d760d7ca50f9f2744ebb7e7414755f722d3af0b0c1f4ba5361d7701", checked := Try.checked }
namespace Rows
def none {H : Type} : Left H := { results := [], args := [] }

/-- 'zzlaws_policy_b1.FnLcmIsTheFactorwiseMaximum': WHATEVER THE INPUT: true; the input reads as it did. -/
def fnLcmIsTheFactorwiseMaximumSpec : ChangeSpec := { name := "fnLcmIsTheFactorwiseMaximum", fn := fun _ => fun
  | [d1, d2] => { results := [.lit (.bool true)], args := [d1, d2] }
  | _ => none }
def fnLcmIsTheFactorwiseMaximumRow : OpenClaim := { program := "qxb6601200a", sum := "3de5adb56d760d7ca50f9f2744ebb7e7414755f722d3af0b0c1f4ba5361d7701", func := "example.com/validity/validity/zzlaws_policy_b1.FnLcmIsTheFactorwiseMaximum", spec := "fnLcmIsTheFactorwiseMaximum", apart := false }
def FnLcmIsTheFactorwiseMaximumSaid : Prop := fnLcmIsTheFactorwiseMaximumRow.holds Try.pinned (OpenSpec.ofChange fnLcmIsTheFactorwiseMaximumSpec)

/-- ITS FALSE NEIGHBOUR: 'it returns false'. Refute it at one input. -/
def fnLcmIsTheFactorwiseMaximumWrong : ChangeSpec := { name := "fnLcmIsTheFactorwiseMaximum", fn := fun _ => fun
  | [d1, d2] => { results := [.lit (.bool false)], args := [d1, d2] }
  | _ => none }
def FnLcmIsTheFactorwiseMaximumWrongFalsely : Prop := fnLcmIsTheFactorwiseMaximumRow.holds Try.pinned (OpenSpec.ofChange fnLcmIsTheFactorwiseMaximumWrong)

/-- 'zzlaws_policy_b1.FnLcmIsAssociativeAndCommutative': WHATEVER THE INPUT: true; the input reads as it did. -/
def fnLcmIsAssociativeAndCommutativeSpec : ChangeSpec := { name := "fnLcmIsAssociativeAndCommutative", fn := fun _ => fun
  | [d1, d2, d3] => { results := [.lit (.bool true)], args := [d1, d2, d3] }
  | _ => none }
def fnLcmIsAssociativeAndCommutativeRow : OpenClaim := { program := "qxb6601200a", sum := "3de5adb56d760d7ca50f9f2744ebb7e7414755f722d3af0b0c1f4ba5361d7701", func := "example.com/validity/validity/zzlaws_policy_b1.FnLcmIsAssociativeAndCommutative", spec := "fnLcmIsAssociativeAndCommutative", apart := false }
def FnLcmIsAssociativeAndCommutativeSaid : Prop := fnLcmIsAssociativeAndCommutativeRow.holds Try.pinned (OpenSpec.ofChange fnLcmIsAssociativeAndCommutativeSpec)

/-- ITS FALSE NEIGHBOUR: 'it returns false'. Refute it at one input. -/
def fnLcmIsAssociativeAndCommutativeWrong : ChangeSpec := { name := "fnLcmIsAssociativeAndCommutative", fn := fun _ => fun
  | [d1, d2, d3] => { results := [.lit (.bool false)], args := [d1, d2, d3] }
  | _ => none }
def FnLcmIsAssociativeAndCommutativeWrongFalsely : Prop := fnLcmIsAssociativeAndCommutativeRow.holds Try.pinned (OpenSpec.ofChange fnLcmIsAssociativeAndCommutativeWrong)

/-- 'zzlaws_policy_b1.FnCompileLaysOutThePatterns': WHATEVER THE INPUT: true; the input reads as it did. -/
def fnCompileLaysOutThePatternsSpec : ChangeSpec := { name := "fnCompileLaysOutThePatterns", fn := fun _ => fun
  | [d1, d2] => { results := [.lit (.bool true)], args := [d1, d2] }
  | _ => none }
def fnCompileLaysOutThePatternsRow : OpenClaim := { program := "qxb6601200a", sum := "3de5adb56d760d7ca50f9f2744ebb7e7414755f722d3af0b0c1f4ba5361d7701", func := "example.com/validity/validity/zzlaws_policy_b1.FnCompileLaysOutThePatterns", spec := "fnCompileLaysOutThePatterns", apart := false }
def FnCompileLaysOutThePatternsSaid : Prop := fnCompileLaysOutThePatternsRow.holds Try.pinned (OpenSpec.ofChange fnCompileLaysOutThePatternsSpec)

/-- ITS FALSE NEIGHBOUR: 'it returns false'. Refute it at one input. -/
def fnCompileLaysOutThePatternsWrong : ChangeSpec := { name := "fnCompileLaysOutThePatterns", fn := fun _ => fun
  | [d1, d2] => { results := [.lit (.bool false)], args := [d1, d2] }
  | _ => none }
def FnCompileLaysOutThePatternsWrongFalsely : Prop := fnCompileLaysOutThePatternsRow.holds Try.pinned (OpenSpec.ofChange fnCompileLaysOutThePatternsWrong)

/-- 'zzlaws_policy_b1.FnCompileRendersBackToItself': WHATEVER THE INPUT: true; the input reads as it did. -/
def fnCompileRendersBackToItselfSpec : ChangeSpec := { name := "fnCompileRendersBackToItself", fn := fun _ => fun
  | [d1, d2] => { results := [.lit (.bool true)], args := [d1, d2] }
  | _ => none }
def fnCompileRendersBackToItselfRow : OpenClaim := { program := "qxb6601200a", sum := "3de5adb56d760d7ca50f9f2744ebb7e7414755f722d3af0b0c1f4ba5361d7701", func := "example.com/validity/validity/zzlaws_policy_b1.FnCompileRendersBackToItself", spec := "fnCompileRendersBackToItself", apart := false }
def FnCompileRendersBackToItselfSaid : Prop := fnCompileRendersBackToItselfRow.holds Try.pinned (OpenSpec.ofChange fnCompileRendersBackToItselfSpec)

/-- ITS FALSE NEIGHBOUR: 'it returns false'. Refute it at one input. -/
def fnCompileRendersBackToItselfWrong : ChangeSpec := { name := "fnCompileRendersBackToItself", fn := fun _ => fun
  | [d1, d2] => { results := [.lit (.bool false)], args := [d1, d2] }
  | _ => none }
def FnCompileRendersBackToItselfWrongFalsely : Prop := fnCompileRendersBackToItselfRow.holds Try.pinned (OpenSpec.ofChange fnCompileRendersBackToItselfWrong)

/-- 'zzlaws_policy_b1.FnPruneKeepsExactlyWhatCanMatter': WHATEVER THE INPUT: true; the input reads as it did. -/
def fnPruneKeepsExactlyWhatCanMatterSpec : ChangeSpec := { name := "fnPruneKeepsExactlyWhatCanMatter", fn := fun _ => fun
  | [d1, d2, d3] => { results := [.lit (.bool true)], args := [d1, d2, d3] }
  | _ => none }
def fnPruneKeepsExactlyWhatCanMatterRow : OpenClaim := { program := "qxb6601200a", sum := "3de5adb56d760d7ca50f9f2744ebb7e7414755f722d3af0b0c1f4ba5361d7701", func := "example.com/validity/validity/zzlaws_policy_b1.FnPruneKeepsExactlyWhatCanMatter", spec := "fnPruneKeepsExactlyWhatCanMatter", apart := false }
def FnPruneKeepsExactlyWhatCanMatterSaid : Prop := fnPruneKeepsExactlyWhatCanMatterRow.holds Try.pinned (OpenSpec.ofChange fnPruneKeepsExactlyWhatCanMatterSpec)

/-- ITS FALSE NEIGHBOUR: 'it returns false'. Refute it at one input. -/
def fnPruneKeepsExactlyWhatCanMatterWrong : ChangeSpec := { name := "fnPruneKeepsExactlyWhatCanMatter", fn := fun _ => fun
  | [d1, d2, d3] => { results := [.lit (.bool false)], args := [d1, d2, d3] }
  | _ => none }
def FnPruneKeepsExactlyWhatCanMatterWrongFalsely : Prop := fnPruneKeepsExactlyWhatCanMatterRow.holds Try.pinned (OpenSpec.ofChange fnPruneKeepsExactlyWhatCanMatterWrong)

/-- 'zzlaws_policy_b1.FnPruneIsIdempotent': WHATEVER THE INPUT: true; the input reads as it did. -/
def fnPruneIsIdempotentSpec : ChangeSpec := { name := "fnPruneIsIdempotent", fn := fun _ => fun
  | [d1, d2, d3] => { results := [.lit (.bool true)], args := [d1, d2, d3] }
  | _ => none }
def fnPruneIsIdempotentRow : OpenClaim := { program := "qxb6601200a", sum := "3de5adb56d760d7ca50f9f2744ebb7e7414755f722d3af0b0c1f4ba5361d7701", func := "example.com/validity/validity/zzlaws_policy_b1.FnPruneIsIdempotent", spec := "fnPruneIsIdempotent", apart := false }
def FnPruneIsIdempotentSaid : Prop := fnPruneIsIdempotentRow.holds Try.pinned (OpenSpec.ofChange fnPruneIsIdempotentSpec)

/-- ITS FALSE NEIGHBOUR: 'it returns false'. Refute it at one input. -/
def fnPruneIsIdempotentWrong : ChangeSpec := { name := "fnPruneIsIdempotent", fn := fun _ => fun
  | [d1, d2, d3] => { results := [.lit (.bool false)], args := [d1, d2, d3] }
  | _ => none }
def FnPruneIsIdempotentWrongFalsely : Prop := fnPruneIsIdempotentRow.holds Try.pinned (OpenSpec.ofChange fnPruneIsIdempotentWrong)

end Rows
end Go.Proofs.Qxb6601200a
