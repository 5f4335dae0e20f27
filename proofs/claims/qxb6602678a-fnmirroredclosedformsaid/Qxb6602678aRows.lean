/-
  No cell of these rows narrows 'for every input' (looked for: loops, veiled, ifaces, maps, wideKeys, modest, calm, conditions, laid).
  DERIVED. THE GIVEN ROWS OF THIS SEAT. 7 by the template 'for every input the law returns true; each argument reads behind the call as it read before'; 0 by the template 'total and deterministic' (their statements: Qxb6602678aTotals.lean).
  GIVEN WITH THE SEED: the statements are not yours to turn. If you find one false, say at which input.
  Laid BY PROGRAM, IN A SANDBOX (cutbox-rows.mjs): the forced cells as the released guide's own fill.sh prints them over the translation 285cc8ab4b8e60f9… (all of the seat's roots in one cut). By AI agents, Wed Nov 11 2026. No macro, syntax, notation, axiom, sorry.
-/
import Derived.Test.Qxb6602678aChecked
import GoSem.Claim
import GoSem.ClaimJoined
import GoSem.ClaimMapViews
import Derived.JoinedTies
import Derived.KernelRfl
namespace Go.Proofs.Qxb6602678a
/- THE CELL 'sum', in the pinned program and in every row, IS THE sha256 OF THE DUMP (.gsa) THAT Qxb6602678aProg.lean LOADS. Nothing in Lean hashes anything: it is a label: what it is worth is what the hold of that sum in a sandbox is worth. -/
noncomputable def Try.pinned : Pinned := { name := "qxb6602678a", sum := "285cc8ab4b8e60f9f0b6bc84a21f1505eb3c260a4f8a720a00651096e301b514", checked := Try.checked }
namespace Rows
def none {H : Type} : Left H := { results := [], args := [] }

/-- 'zzlaws_internal_filter_b1.FnHoldsComplementsAndTrichotomy': WHATEVER THE INPUT: true; the input reads as it did. -/
def fnHoldsComplementsAndTrichotomySpec : ChangeSpec := { name := "fnHoldsComplementsAndTrichotomy", fn := fun _ => fun
  | [d] => { results := [.lit (.bool true)], args := [d] }
  | _ => none }
def fnHoldsComplementsAndTrichotomyRow : OpenClaim := { program := "qxb6602678a", sum := "285cc8ab4b8e60f9f0b6bc84a21f1505eb3c260a4f8a720a00651096e301b514", func := "example.com/lastknown/lastknown/zzlaws_internal_filter_b1.FnHoldsComplementsAndTrichotomy", spec := "fnHoldsComplementsAndTrichotomy", apart := false }
def FnHoldsComplementsAndTrichotomySaid : Prop := fnHoldsComplementsAndTrichotomyRow.holds Try.pinned (OpenSpec.ofChange fnHoldsComplementsAndTrichotomySpec)

/-- ITS FALSE NEIGHBOUR: 'it returns false'. Refute it at one input. -/
def fnHoldsComplementsAndTrichotomyWrong : ChangeSpec := { name := "fnHoldsComplementsAndTrichotomy", fn := fun _ => fun
  | [d] => { results := [.lit (.bool false)], args := [d] }
  | _ => none }
def FnHoldsComplementsAndTrichotomyWrongFalsely : Prop := fnHoldsComplementsAndTrichotomyRow.holds Try.pinned (OpenSpec.ofChange fnHoldsComplementsAndTrichotomyWrong)

/-- 'zzlaws_internal_filter_b1.FnMirroredClosedForm': WHATEVER THE INPUT: true; the input reads as it did. -/
def fnMirroredClosedFormSpec : ChangeSpec := { name := "fnMirroredClosedForm", fn := fun _ => fun
  | [d] => { results := [.lit (.bool true)], args := [d] }
  | _ => none }
def fnMirroredClosedFormRow : OpenClaim := { program := "qxb6602678a", sum := "285cc8ab4b8e60f9f0b6bc84a21f1505eb3c260a4f8a720a00651096e301b514", func := "example.com/lastknown/lastknown/zzlaws_internal_filter_b1.FnMirroredClosedForm", spec := "fnMirroredClosedForm", apart := false }
def FnMirroredClosedFormSaid : Prop := fnMirroredClosedFormRow.holds Try.pinned (OpenSpec.ofChange fnMirroredClosedFormSpec)

/-- ITS FALSE NEIGHBOUR: 'it returns false'. Refute it at one input. -/
def fnMirroredClosedFormWrong : ChangeSpec := { name := "fnMirroredClosedForm", fn := fun _ => fun
  | [d] => { results := [.lit (.bool false)], args := [d] }
  | _ => none }
def FnMirroredClosedFormWrongFalsely : Prop := fnMirroredClosedFormRow.holds Try.pinned (OpenSpec.ofChange fnMirroredClosedFormWrong)

/-- 'zzlaws_internal_filter_b1.FnMirroredInvolution': WHATEVER THE INPUT: true; the input reads as it did. -/
def fnMirroredInvolutionSpec : ChangeSpec := { name := "fnMirroredInvolution", fn := fun _ => fun
  | [d] => { results := [.lit (.bool true)], args := [d] }
  | _ => none }
def fnMirroredInvolutionRow : OpenClaim := { program := "qxb6602678a", sum := "285cc8ab4b8e60f9f0b6bc84a21f1505eb3c260a4f8a720a00651096e301b514", func := "example.com/lastknown/lastknown/zzlaws_internal_filter_b1.FnMirroredInvolution", spec := "fnMirroredInvolution", apart := false }
def FnMirroredInvolutionSaid : Prop := fnMirroredInvolutionRow.holds Try.pinned (OpenSpec.ofChange fnMirroredInvolutionSpec)

/-- ITS FALSE NEIGHBOUR: 'it returns false'. Refute it at one input. -/
def fnMirroredInvolutionWrong : ChangeSpec := { name := "fnMirroredInvolution", fn := fun _ => fun
  | [d] => { results := [.lit (.bool false)], args := [d] }
  | _ => none }
def FnMirroredInvolutionWrongFalsely : Prop := fnMirroredInvolutionRow.holds Try.pinned (OpenSpec.ofChange fnMirroredInvolutionWrong)

/-- 'zzlaws_internal_filter_b1.FnMirroredSwapsOperands': WHATEVER THE INPUT: true; the input reads as it did. -/
def fnMirroredSwapsOperandsSpec : ChangeSpec := { name := "fnMirroredSwapsOperands", fn := fun _ => fun
  | [d1, d2] => { results := [.lit (.bool true)], args := [d1, d2] }
  | _ => none }
def fnMirroredSwapsOperandsRow : OpenClaim := { program := "qxb6602678a", sum := "285cc8ab4b8e60f9f0b6bc84a21f1505eb3c260a4f8a720a00651096e301b514", func := "example.com/lastknown/lastknown/zzlaws_internal_filter_b1.FnMirroredSwapsOperands", spec := "fnMirroredSwapsOperands", apart := false }
def FnMirroredSwapsOperandsSaid : Prop := fnMirroredSwapsOperandsRow.holds Try.pinned (OpenSpec.ofChange fnMirroredSwapsOperandsSpec)

/-- ITS FALSE NEIGHBOUR: 'it returns false'. Refute it at one input. -/
def fnMirroredSwapsOperandsWrong : ChangeSpec := { name := "fnMirroredSwapsOperands", fn := fun _ => fun
  | [d1, d2] => { results := [.lit (.bool false)], args := [d1, d2] }
  | _ => none }
def FnMirroredSwapsOperandsWrongFalsely : Prop := fnMirroredSwapsOperandsRow.holds Try.pinned (OpenSpec.ofChange fnMirroredSwapsOperandsWrong)

/-- 'zzlaws_internal_filter_b1.FnNumberLengthAutomaton': WHATEVER THE INPUT: true; the input reads as it did. -/
def fnNumberLengthAutomatonSpec : ChangeSpec := { name := "fnNumberLengthAutomaton", fn := fun _ => fun
  | [d] => { results := [.lit (.bool true)], args := [d] }
  | _ => none }
def fnNumberLengthAutomatonRow : OpenClaim := { program := "qxb6602678a", sum := "285cc8ab4b8e60f9f0b6bc84a21f1505eb3c260a4f8a720a00651096e301b514", func := "example.com/lastknown/lastknown/zzlaws_internal_filter_b1.FnNumberLengthAutomaton", spec := "fnNumberLengthAutomaton", apart := false }
def FnNumberLengthAutomatonSaid : Prop := fnNumberLengthAutomatonRow.holds Try.pinned (OpenSpec.ofChange fnNumberLengthAutomatonSpec)

/-- ITS FALSE NEIGHBOUR: 'it returns false'. Refute it at one input. -/
def fnNumberLengthAutomatonWrong : ChangeSpec := { name := "fnNumberLengthAutomaton", fn := fun _ => fun
  | [d] => { results := [.lit (.bool false)], args := [d] }
  | _ => none }
def FnNumberLengthAutomatonWrongFalsely : Prop := fnNumberLengthAutomatonRow.holds Try.pinned (OpenSpec.ofChange fnNumberLengthAutomatonWrong)

/-- 'zzlaws_internal_filter_b1.FnNumberLengthRefusal': WHATEVER THE INPUT: true; the input reads as it did. -/
def fnNumberLengthRefusalSpec : ChangeSpec := { name := "fnNumberLengthRefusal", fn := fun _ => fun
  | [d] => { results := [.lit (.bool true)], args := [d] }
  | _ => none }
def fnNumberLengthRefusalRow : OpenClaim := { program := "qxb6602678a", sum := "285cc8ab4b8e60f9f0b6bc84a21f1505eb3c260a4f8a720a00651096e301b514", func := "example.com/lastknown/lastknown/zzlaws_internal_filter_b1.FnNumberLengthRefusal", spec := "fnNumberLengthRefusal", apart := false }
def FnNumberLengthRefusalSaid : Prop := fnNumberLengthRefusalRow.holds Try.pinned (OpenSpec.ofChange fnNumberLengthRefusalSpec)

/-- ITS FALSE NEIGHBOUR: 'it returns false'. Refute it at one input. -/
def fnNumberLengthRefusalWrong : ChangeSpec := { name := "fnNumberLengthRefusal", fn := fun _ => fun
  | [d] => { results := [.lit (.bool false)], args := [d] }
  | _ => none }
def FnNumberLengthRefusalWrongFalsely : Prop := fnNumberLengthRefusalRow.holds Try.pinned (OpenSpec.ofChange fnNumberLengthRefusalWrong)

/-- 'zzlaws_internal_filter_b1.FnNumberLengthBoundedAndIdempotent': WHATEVER THE INPUT: true; the input reads as it did. -/
def fnNumberLengthBoundedAndIdempotentSpec : ChangeSpec := { name := "fnNumberLengthBoundedAndIdempotent", fn := fun _ => fun
  | [d] => { results := [.lit (.bool true)], args := [d] }
  | _ => none }
def fnNumberLengthBoundedAndIdempotentRow : OpenClaim := { program := "qxb6602678a", sum := "285cc8ab4b8e60f9f0b6bc84a21f1505eb3c260a4f8a720a00651096e301b514", func := "example.com/lastknown/lastknown/zzlaws_internal_filter_b1.FnNumberLengthBoundedAndIdempotent", spec := "fnNumberLengthBoundedAndIdempotent", apart := false }
def FnNumberLengthBoundedAndIdempotentSaid : Prop := fnNumberLengthBoundedAndIdempotentRow.holds Try.pinned (OpenSpec.ofChange fnNumberLengthBoundedAndIdempotentSpec)

/-- ITS FALSE NEIGHBOUR: 'it returns false'. Refute it at one input. -/
def fnNumberLengthBoundedAndIdempotentWrong : ChangeSpec := { name := "fnNumberLengthBoundedAndIdempotent", fn := fun _ => fun
  | [d] => { results := [.lit (.bool false)], args := [d] }
  | _ => none }
def FnNumberLengthBoundedAndIdempotentWrongFalsely : Prop := fnNumberLengthBoundedAndIdempotentRow.holds Try.pinned (OpenSpec.ofChange fnNumberLengthBoundedAndIdempotentWrong)

end Rows
end Go.Proofs.Qxb6602678a
