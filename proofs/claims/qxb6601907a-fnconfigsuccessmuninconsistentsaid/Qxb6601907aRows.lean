/-
  No cell of these rows narrows 'for every input' (looked for: loops, veiled, ifaces, maps, wideKeys, modest, calm, conditions, laid).
  DERIVED. THE GIVEN ROWS OF THIS SEAT. 5 by the template 'for every input the law returns true; each argument reads behind the call as it read before'; 0 by the template 'total and deterministic' (their statements: Qxb6601907aTotals.lean).
  GIVEN WITH THE SEED: the statements are not yours to turn. If you find one false, say at which input.
  Laid BY PROGRAM, IN A SANDBOX (cutbox-rows.mjs): the forced cells as the released guide's own fill.sh prints them over the translation 4d09df68dc6d4525… (all of the seat's roots in one cut). By AI agents, Wed Nov 11 2026. No macro, syntax, notation, axiom, sorry.
-/
import Derived.Test.Qxb6601907aChecked
import GoSem.Claim
import GoSem.ClaimJoined
import GoSem.ClaimMapViews
import Derived.JoinedTies
import Derived.KernelRfl
namespace Go.Proofs.Qxb6601907a
/- THE CELL 'sum', in the pinned program and in every row, IS THE sha256 OF THE DUMP (.gsa) THAT Qxb6601907aProg.lean LOADS. Nothing in Lean hashes anything: it is a label: what it is worth is what the hold of that sum in a sandbox is worth. -/
noncomputable def Try.pinned : Pinned := { name := "qxb6601907a", sum := "4d09df68dc6d4525b1e1dca18efac52f980a9b0aa9118d983fb1e012eb289176", checked := Try.checked }
namespace Rows
def none {H : Type} : Left H := { results := [], args := [] }

/-- 'zzlaws_pkg_mail_b1.FnValidCircuitNameMatchesAlphabet': WHATEVER THE INPUT: true; the input reads as it did. -/
def fnValidCircuitNameMatchesAlphabetSpec : ChangeSpec := { name := "fnValidCircuitNameMatchesAlphabet", fn := fun _ => fun
  | [d] => { results := [.lit (.bool true)], args := [d] }
  | _ => none }
def fnValidCircuitNameMatchesAlphabetRow : OpenClaim := { program := "qxb6601907a", sum := "4d09df68dc6d4525b1e1dca18efac52f980a9b0aa9118d983fb1e012eb289176", func := "example.com/pollwick/pollwick/zzlaws_pkg_mail_b1.FnValidCircuitNameMatchesAlphabet", spec := "fnValidCircuitNameMatchesAlphabet", apart := false }
def FnValidCircuitNameMatchesAlphabetSaid : Prop := fnValidCircuitNameMatchesAlphabetRow.holds Try.pinned (OpenSpec.ofChange fnValidCircuitNameMatchesAlphabetSpec)

/-- ITS FALSE NEIGHBOUR: 'it returns false'. Refute it at one input. -/
def fnValidCircuitNameMatchesAlphabetWrong : ChangeSpec := { name := "fnValidCircuitNameMatchesAlphabet", fn := fun _ => fun
  | [d] => { results := [.lit (.bool false)], args := [d] }
  | _ => none }
def FnValidCircuitNameMatchesAlphabetWrongFalsely : Prop := fnValidCircuitNameMatchesAlphabetRow.holds Try.pinned (OpenSpec.ofChange fnValidCircuitNameMatchesAlphabetWrong)

/-- 'zzlaws_pkg_mail_b1.FnValidCircuitNameConcat': WHATEVER THE INPUT: true; the input reads as it did. -/
def fnValidCircuitNameConcatSpec : ChangeSpec := { name := "fnValidCircuitNameConcat", fn := fun _ => fun
  | [d1, d2] => { results := [.lit (.bool true)], args := [d1, d2] }
  | _ => none }
def fnValidCircuitNameConcatRow : OpenClaim := { program := "qxb6601907a", sum := "4d09df68dc6d4525b1e1dca18efac52f980a9b0aa9118d983fb1e012eb289176", func := "example.com/pollwick/pollwick/zzlaws_pkg_mail_b1.FnValidCircuitNameConcat", spec := "fnValidCircuitNameConcat", apart := false }
def FnValidCircuitNameConcatSaid : Prop := fnValidCircuitNameConcatRow.holds Try.pinned (OpenSpec.ofChange fnValidCircuitNameConcatSpec)

/-- ITS FALSE NEIGHBOUR: 'it returns false'. Refute it at one input. -/
def fnValidCircuitNameConcatWrong : ChangeSpec := { name := "fnValidCircuitNameConcat", fn := fun _ => fun
  | [d1, d2] => { results := [.lit (.bool false)], args := [d1, d2] }
  | _ => none }
def FnValidCircuitNameConcatWrongFalsely : Prop := fnValidCircuitNameConcatRow.holds Try.pinned (OpenSpec.ofChange fnValidCircuitNameConcatWrong)

/-- 'zzlaws_pkg_mail_b1.FnValidCircuitNameCaseBlind': WHATEVER THE INPUT: true; the input reads as it did. -/
def fnValidCircuitNameCaseBlindSpec : ChangeSpec := { name := "fnValidCircuitNameCaseBlind", fn := fun _ => fun
  | [d] => { results := [.lit (.bool true)], args := [d] }
  | _ => none }
def fnValidCircuitNameCaseBlindRow : OpenClaim := { program := "qxb6601907a", sum := "4d09df68dc6d4525b1e1dca18efac52f980a9b0aa9118d983fb1e012eb289176", func := "example.com/pollwick/pollwick/zzlaws_pkg_mail_b1.FnValidCircuitNameCaseBlind", spec := "fnValidCircuitNameCaseBlind", apart := false }
def FnValidCircuitNameCaseBlindSaid : Prop := fnValidCircuitNameCaseBlindRow.holds Try.pinned (OpenSpec.ofChange fnValidCircuitNameCaseBlindSpec)

/-- ITS FALSE NEIGHBOUR: 'it returns false'. Refute it at one input. -/
def fnValidCircuitNameCaseBlindWrong : ChangeSpec := { name := "fnValidCircuitNameCaseBlind", fn := fun _ => fun
  | [d] => { results := [.lit (.bool false)], args := [d] }
  | _ => none }
def FnValidCircuitNameCaseBlindWrongFalsely : Prop := fnValidCircuitNameCaseBlindRow.holds Try.pinned (OpenSpec.ofChange fnValidCircuitNameCaseBlindWrong)

/-- 'zzlaws_pkg_mail_b1.FnConfigSuccessTitleRoundTripRestFixed': WHATEVER THE INPUT: true; the input reads as it did. -/
def fnConfigSuccessTitleRoundTripRestFixedSpec : ChangeSpec := { name := "fnConfigSuccessTitleRoundTripRestFixed", fn := fun _ => fun
  | [d1, d2] => { results := [.lit (.bool true)], args := [d1, d2] }
  | _ => none }
def fnConfigSuccessTitleRoundTripRestFixedRow : OpenClaim := { program := "qxb6601907a", sum := "4d09df68dc6d4525b1e1dca18efac52f980a9b0aa9118d983fb1e012eb289176", func := "example.com/pollwick/pollwick/zzlaws_pkg_mail_b1.FnConfigSuccessTitleRoundTripRestFixed", spec := "fnConfigSuccessTitleRoundTripRestFixed", apart := false }
def FnConfigSuccessTitleRoundTripRestFixedSaid : Prop := fnConfigSuccessTitleRoundTripRestFixedRow.holds Try.pinned (OpenSpec.ofChange fnConfigSuccessTitleRoundTripRestFixedSpec)

/-- ITS FALSE NEIGHBOUR: 'it returns false'. Refute it at one input. -/
def fnConfigSuccessTitleRoundTripRestFixedWrong : ChangeSpec := { name := "fnConfigSuccessTitleRoundTripRestFixed", fn := fun _ => fun
  | [d1, d2] => { results := [.lit (.bool false)], args := [d1, d2] }
  | _ => none }
def FnConfigSuccessTitleRoundTripRestFixedWrongFalsely : Prop := fnConfigSuccessTitleRoundTripRestFixedRow.holds Try.pinned (OpenSpec.ofChange fnConfigSuccessTitleRoundTripRestFixedWrong)

/-- 'zzlaws_pkg_mail_b1.FnConfigSuccessMuninConsistent': WHATEVER THE INPUT: true; the input reads as it did. -/
def fnConfigSuccessMuninConsistentSpec : ChangeSpec := { name := "fnConfigSuccessMuninConsistent", fn := fun _ => fun
  | [d] => { results := [.lit (.bool true)], args := [d] }
  | _ => none }
def fnConfigSuccessMuninConsistentRow : OpenClaim := { program := "qxb6601907a", sum := "4d09df68dc6d4525b1e1dca18efac52f980a9b0aa9118d983fb1e012eb289176", func := "example.com/pollwick/pollwick/zzlaws_pkg_mail_b1.FnConfigSuccessMuninConsistent", spec := "fnConfigSuccessMuninConsistent", apart := false }
def FnConfigSuccessMuninConsistentSaid : Prop := fnConfigSuccessMuninConsistentRow.holds Try.pinned (OpenSpec.ofChange fnConfigSuccessMuninConsistentSpec)

/-- ITS FALSE NEIGHBOUR: 'it returns false'. Refute it at one input. -/
def fnConfigSuccessMuninConsistentWrong : ChangeSpec := { name := "fnConfigSuccessMuninConsistent", fn := fun _ => fun
  | [d] => { results := [.lit (.bool false)], args := [d] }
  | _ => none }
def FnConfigSuccessMuninConsistentWrongFalsely : Prop := fnConfigSuccessMuninConsistentRow.holds Try.pinned (OpenSpec.ofChange fnConfigSuccessMuninConsistentWrong)

end Rows
end Go.Proofs.Qxb6601907a
