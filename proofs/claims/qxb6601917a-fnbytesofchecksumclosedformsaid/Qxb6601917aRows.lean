/-
  NARROWER THAN 'FOR EVERY INPUT', by the rows' own cells (each row's printed sentence says how): FnDescribedOnlyItsOwnEntryCounts: maps.
  DERIVED. THE GIVEN ROWS OF THIS SEAT. 7 by the template 'for every input the law returns true; each argument reads behind the call as it read before'; 0 by the template 'total and deterministic' (their statements: Qxb6601917aTotals.lean).
  GIVEN WITH THE SEED: the statements are not yours to turn. If you find one false, say at which input.
  Laid BY PROGRAM, IN A SANDBOX (cutbox-rows.mjs): the forced cells as the released guide's own fill.sh prints them over the translation 5e478f4b36aebbb7… (all of the seat's roots in one cut). By AI agents, Wed Nov 11 2026. No macro, syntax, notation, axiom, sorry.
-/
import Derived.Test.Qxb6601917aChecked
import GoSem.Claim
import GoSem.ClaimJoined
import GoSem.ClaimMapViews
import Derived.JoinedTies
import Derived.KernelRfl
namespace Go.Proofs.Qxb6601917a
/- THE CELL 'sum', in the pinned program and in every row, IS THE sha256 OF THE DUMP (.gsa) THAT Qxb6601917aProg.lean LOADS. Nothing in Lean hashes anything: it is a label: what it is worth is what the hold of that sum in a sandbox is worth. -/
noncomputable def Try.pinned : Pinned := { name := "qxb6601917a", sum := "5e478f4b36aebbb711dcc866c4bd5c33d998ba6c3492fb59c071b3fae90b41be", checked := Try.checked }
namespace Rows
def none {H : Type} : Left H := { results := [], args := [] }

/-- 'zzlaws_ipmi_b1.FnChecksumCompletesSumToZeroMod256': WHATEVER THE INPUT: true; the input reads as it did. -/
def fnChecksumCompletesSumToZeroMod256Spec : ChangeSpec := { name := "fnChecksumCompletesSumToZeroMod256", fn := fun _ => fun
  | [d] => { results := [.lit (.bool true)], args := [d] }
  | _ => none }
def fnChecksumCompletesSumToZeroMod256Row : OpenClaim := { program := "qxb6601917a", sum := "5e478f4b36aebbb711dcc866c4bd5c33d998ba6c3492fb59c071b3fae90b41be", func := "example.com/holdfast/holdfast/zzlaws_ipmi_b1.FnChecksumCompletesSumToZeroMod256", spec := "fnChecksumCompletesSumToZeroMod256", apart := false }
def FnChecksumCompletesSumToZeroMod256Said : Prop := fnChecksumCompletesSumToZeroMod256Row.holds Try.pinned (OpenSpec.ofChange fnChecksumCompletesSumToZeroMod256Spec)

/-- ITS FALSE NEIGHBOUR: 'it returns false'. Refute it at one input. -/
def fnChecksumCompletesSumToZeroMod256Wrong : ChangeSpec := { name := "fnChecksumCompletesSumToZeroMod256", fn := fun _ => fun
  | [d] => { results := [.lit (.bool false)], args := [d] }
  | _ => none }
def FnChecksumCompletesSumToZeroMod256WrongFalsely : Prop := fnChecksumCompletesSumToZeroMod256Row.holds Try.pinned (OpenSpec.ofChange fnChecksumCompletesSumToZeroMod256Wrong)

/-- 'zzlaws_ipmi_b1.FnChecksumAppendedMakesZero': WHATEVER THE INPUT: true; the input reads as it did. -/
def fnChecksumAppendedMakesZeroSpec : ChangeSpec := { name := "fnChecksumAppendedMakesZero", fn := fun _ => fun
  | [d] => { results := [.lit (.bool true)], args := [d] }
  | _ => none }
def fnChecksumAppendedMakesZeroRow : OpenClaim := { program := "qxb6601917a", sum := "5e478f4b36aebbb711dcc866c4bd5c33d998ba6c3492fb59c071b3fae90b41be", func := "example.com/holdfast/holdfast/zzlaws_ipmi_b1.FnChecksumAppendedMakesZero", spec := "fnChecksumAppendedMakesZero", apart := false }
def FnChecksumAppendedMakesZeroSaid : Prop := fnChecksumAppendedMakesZeroRow.holds Try.pinned (OpenSpec.ofChange fnChecksumAppendedMakesZeroSpec)

/-- ITS FALSE NEIGHBOUR: 'it returns false'. Refute it at one input. -/
def fnChecksumAppendedMakesZeroWrong : ChangeSpec := { name := "fnChecksumAppendedMakesZero", fn := fun _ => fun
  | [d] => { results := [.lit (.bool false)], args := [d] }
  | _ => none }
def FnChecksumAppendedMakesZeroWrongFalsely : Prop := fnChecksumAppendedMakesZeroRow.holds Try.pinned (OpenSpec.ofChange fnChecksumAppendedMakesZeroWrong)

/-- 'zzlaws_ipmi_b1.FnChecksumOfJoinIsSumOfChecksums': WHATEVER THE INPUT: true; the input reads as it did. -/
def fnChecksumOfJoinIsSumOfChecksumsSpec : ChangeSpec := { name := "fnChecksumOfJoinIsSumOfChecksums", fn := fun _ => fun
  | [d1, d2] => { results := [.lit (.bool true)], args := [d1, d2] }
  | _ => none }
def fnChecksumOfJoinIsSumOfChecksumsRow : OpenClaim := { program := "qxb6601917a", sum := "5e478f4b36aebbb711dcc866c4bd5c33d998ba6c3492fb59c071b3fae90b41be", func := "example.com/holdfast/holdfast/zzlaws_ipmi_b1.FnChecksumOfJoinIsSumOfChecksums", spec := "fnChecksumOfJoinIsSumOfChecksums", apart := false }
def FnChecksumOfJoinIsSumOfChecksumsSaid : Prop := fnChecksumOfJoinIsSumOfChecksumsRow.holds Try.pinned (OpenSpec.ofChange fnChecksumOfJoinIsSumOfChecksumsSpec)

/-- ITS FALSE NEIGHBOUR: 'it returns false'. Refute it at one input. -/
def fnChecksumOfJoinIsSumOfChecksumsWrong : ChangeSpec := { name := "fnChecksumOfJoinIsSumOfChecksums", fn := fun _ => fun
  | [d1, d2] => { results := [.lit (.bool false)], args := [d1, d2] }
  | _ => none }
def FnChecksumOfJoinIsSumOfChecksumsWrongFalsely : Prop := fnChecksumOfJoinIsSumOfChecksumsRow.holds Try.pinned (OpenSpec.ofChange fnChecksumOfJoinIsSumOfChecksumsWrong)

/-- 'zzlaws_ipmi_b1.FnBytesOfIsNCopiesOfB': WHATEVER THE INPUT: true; the input reads as it did. -/
def fnBytesOfIsNCopiesOfBSpec : ChangeSpec := { name := "fnBytesOfIsNCopiesOfB", fn := fun _ => fun
  | [d1, d2] => { results := [.lit (.bool true)], args := [d1, d2] }
  | _ => none }
def fnBytesOfIsNCopiesOfBRow : OpenClaim := { program := "qxb6601917a", sum := "5e478f4b36aebbb711dcc866c4bd5c33d998ba6c3492fb59c071b3fae90b41be", func := "example.com/holdfast/holdfast/zzlaws_ipmi_b1.FnBytesOfIsNCopiesOfB", spec := "fnBytesOfIsNCopiesOfB", apart := false }
def FnBytesOfIsNCopiesOfBSaid : Prop := fnBytesOfIsNCopiesOfBRow.holds Try.pinned (OpenSpec.ofChange fnBytesOfIsNCopiesOfBSpec)

/-- ITS FALSE NEIGHBOUR: 'it returns false'. Refute it at one input. -/
def fnBytesOfIsNCopiesOfBWrong : ChangeSpec := { name := "fnBytesOfIsNCopiesOfB", fn := fun _ => fun
  | [d1, d2] => { results := [.lit (.bool false)], args := [d1, d2] }
  | _ => none }
def FnBytesOfIsNCopiesOfBWrongFalsely : Prop := fnBytesOfIsNCopiesOfBRow.holds Try.pinned (OpenSpec.ofChange fnBytesOfIsNCopiesOfBWrong)

/-- 'zzlaws_ipmi_b1.FnBytesOfChecksumClosedForm': WHATEVER THE INPUT: true; the input reads as it did. -/
def fnBytesOfChecksumClosedFormSpec : ChangeSpec := { name := "fnBytesOfChecksumClosedForm", fn := fun _ => fun
  | [d1, d2] => { results := [.lit (.bool true)], args := [d1, d2] }
  | _ => none }
def fnBytesOfChecksumClosedFormRow : OpenClaim := { program := "qxb6601917a", sum := "5e478f4b36aebbb711dcc866c4bd5c33d998ba6c3492fb59c071b3fae90b41be", func := "example.com/holdfast/holdfast/zzlaws_ipmi_b1.FnBytesOfChecksumClosedForm", spec := "fnBytesOfChecksumClosedForm", apart := false }
def FnBytesOfChecksumClosedFormSaid : Prop := fnBytesOfChecksumClosedFormRow.holds Try.pinned (OpenSpec.ofChange fnBytesOfChecksumClosedFormSpec)

/-- ITS FALSE NEIGHBOUR: 'it returns false'. Refute it at one input. -/
def fnBytesOfChecksumClosedFormWrong : ChangeSpec := { name := "fnBytesOfChecksumClosedForm", fn := fun _ => fun
  | [d1, d2] => { results := [.lit (.bool false)], args := [d1, d2] }
  | _ => none }
def FnBytesOfChecksumClosedFormWrongFalsely : Prop := fnBytesOfChecksumClosedFormRow.holds Try.pinned (OpenSpec.ofChange fnBytesOfChecksumClosedFormWrong)

/-- 'zzlaws_ipmi_b1.FnBytesOfFreshEachCall': WHATEVER THE INPUT: true; the input reads as it did. -/
def fnBytesOfFreshEachCallSpec : ChangeSpec := { name := "fnBytesOfFreshEachCall", fn := fun _ => fun
  | [d1, d2] => { results := [.lit (.bool true)], args := [d1, d2] }
  | _ => none }
def fnBytesOfFreshEachCallRow : OpenClaim := { program := "qxb6601917a", sum := "5e478f4b36aebbb711dcc866c4bd5c33d998ba6c3492fb59c071b3fae90b41be", func := "example.com/holdfast/holdfast/zzlaws_ipmi_b1.FnBytesOfFreshEachCall", spec := "fnBytesOfFreshEachCall", apart := false }
def FnBytesOfFreshEachCallSaid : Prop := fnBytesOfFreshEachCallRow.holds Try.pinned (OpenSpec.ofChange fnBytesOfFreshEachCallSpec)

/-- ITS FALSE NEIGHBOUR: 'it returns false'. Refute it at one input. -/
def fnBytesOfFreshEachCallWrong : ChangeSpec := { name := "fnBytesOfFreshEachCall", fn := fun _ => fun
  | [d1, d2] => { results := [.lit (.bool false)], args := [d1, d2] }
  | _ => none }
def FnBytesOfFreshEachCallWrongFalsely : Prop := fnBytesOfFreshEachCallRow.holds Try.pinned (OpenSpec.ofChange fnBytesOfFreshEachCallWrong)

/-- 'zzlaws_ipmi_b1.FnDescribedOnlyItsOwnEntryCounts': WHATEVER THE INPUT: true; the input reads as it did. -/
def fnDescribedOnlyItsOwnEntryCountsSpec : ChangeSpec := { name := "fnDescribedOnlyItsOwnEntryCounts", fn := fun _ => fun
  | [d1, d2, d3, d4] => { results := [.lit (.bool true)], args := [d1, d2, d3, d4] }
  | _ => none }
def fnDescribedOnlyItsOwnEntryCountsRow : OpenClaim := { program := "qxb6601917a", sum := "5e478f4b36aebbb711dcc866c4bd5c33d998ba6c3492fb59c071b3fae90b41be", func := "example.com/holdfast/holdfast/zzlaws_ipmi_b1.FnDescribedOnlyItsOwnEntryCounts", spec := "fnDescribedOnlyItsOwnEntryCounts", maps := true, apart := false }
def FnDescribedOnlyItsOwnEntryCountsSaid : Prop := fnDescribedOnlyItsOwnEntryCountsRow.holds Try.pinned (OpenSpec.ofChange fnDescribedOnlyItsOwnEntryCountsSpec)

/-- ITS FALSE NEIGHBOUR: 'it returns false'. Refute it at one input. -/
def fnDescribedOnlyItsOwnEntryCountsWrong : ChangeSpec := { name := "fnDescribedOnlyItsOwnEntryCounts", fn := fun _ => fun
  | [d1, d2, d3, d4] => { results := [.lit (.bool false)], args := [d1, d2, d3, d4] }
  | _ => none }
def FnDescribedOnlyItsOwnEntryCountsWrongFalsely : Prop := fnDescribedOnlyItsOwnEntryCountsRow.holds Try.pinned (OpenSpec.ofChange fnDescribedOnlyItsOwnEntryCountsWrong)

end Rows
end Go.Proofs.Qxb6601917a
