/-
  No cell of these rows narrows 'for every input' (looked for: loops, veiled, ifaces, maps, wideKeys, modest, calm, conditions, laid).
  DERIVED. THE GIVEN ROWS OF THIS SEAT. 4 by the template 'for every input the law returns true; each argument reads behind the call as it read before'; 0 by the template 'total and deterministic' (their statements: Qxb6601795aTotals.lean).
  GIVEN WITH THE SEED: the statements are not yours to turn. If you find one false, say at which input.
  Laid BY PROGRAM, IN A SANDBOX (cutbox-rows.mjs): the forced cells as the released guide's own fill.sh prints them over the translation e9b348c10d6e7d2c… (all of the seat's roots in one cut). By AI agents, Wed Nov 11 2026. No macro, syntax, notation, axiom, sorry.
-/
import Derived.Test.Qxb6601795aChecked
import GoSem.Claim
import GoSem.ClaimJoined
import GoSem.ClaimMapViews
import Derived.JoinedTies
import Derived.KernelRfl
namespace Go.Proofs.Qxb6601795a
/- THE CELL 'sum', in the pinned program and in every row, IS THE sha256 OF THE DUMP (.gsa) THAT Qxb6601795aProg.lean LOADS. Nothing in Lean hashes anything: it is a label: what it is worth is what the hold of that sum in a sandbox is worth. -/
noncomputable def Try.pinned : Pinned := { name := "qxb6601795a", sum := "e9b348c10d6e7d2c31a2bb2cba2e349ab4dae22bef98996262af8096fcdf3d2c", checked := Try.checked }
namespace Rows
def none {H : Type} : Left H := { results := [], args := [] }

/-- 'zzlaws_internal_history_b1.FnConditionalPutOfUnknownOutcomeIsOKOrMismatch': WHATEVER THE INPUT: true; the input reads as it did. -/
def fnConditionalPutOfUnknownOutcomeIsOKOrMismatchSpec : ChangeSpec := { name := "fnConditionalPutOfUnknownOutcomeIsOKOrMismatch", fn := fun _ => fun
  | [d1, d2, d3, d4, d5, d6] => { results := [.lit (.bool true)], args := [d1, d2, d3, d4, d5, d6] }
  | _ => none }
def fnConditionalPutOfUnknownOutcomeIsOKOrMismatchRow : OpenClaim := { program := "qxb6601795a", sum := "e9b348c10d6e7d2c31a2bb2cba2e349ab4dae22bef98996262af8096fcdf3d2c", func := "example.com/concordat/concordat/zzlaws_internal_history_b1.FnConditionalPutOfUnknownOutcomeIsOKOrMismatch", spec := "fnConditionalPutOfUnknownOutcomeIsOKOrMismatch", plainKeys := false, apart := false }
def FnConditionalPutOfUnknownOutcomeIsOKOrMismatchSaid : Prop := fnConditionalPutOfUnknownOutcomeIsOKOrMismatchRow.holds Try.pinned (OpenSpec.ofChange fnConditionalPutOfUnknownOutcomeIsOKOrMismatchSpec)

/-- ITS FALSE NEIGHBOUR: 'it returns false'. Refute it at one input. -/
def fnConditionalPutOfUnknownOutcomeIsOKOrMismatchWrong : ChangeSpec := { name := "fnConditionalPutOfUnknownOutcomeIsOKOrMismatch", fn := fun _ => fun
  | [d1, d2, d3, d4, d5, d6] => { results := [.lit (.bool false)], args := [d1, d2, d3, d4, d5, d6] }
  | _ => none }
def FnConditionalPutOfUnknownOutcomeIsOKOrMismatchWrongFalsely : Prop := fnConditionalPutOfUnknownOutcomeIsOKOrMismatchRow.holds Try.pinned (OpenSpec.ofChange fnConditionalPutOfUnknownOutcomeIsOKOrMismatchWrong)

/-- 'zzlaws_internal_history_b1.FnAfterKindsAgree': WHATEVER THE INPUT: true; the input reads as it did. -/
def fnAfterKindsAgreeSpec : ChangeSpec := { name := "fnAfterKindsAgree", fn := fun _ => fun
  | [d1, d2, d3, d4, d5, d6, d7, d8] => { results := [.lit (.bool true)], args := [d1, d2, d3, d4, d5, d6, d7, d8] }
  | _ => none }
def fnAfterKindsAgreeRow : OpenClaim := { program := "qxb6601795a", sum := "e9b348c10d6e7d2c31a2bb2cba2e349ab4dae22bef98996262af8096fcdf3d2c", func := "example.com/concordat/concordat/zzlaws_internal_history_b1.FnAfterKindsAgree", spec := "fnAfterKindsAgree", plainKeys := false, apart := false }
def FnAfterKindsAgreeSaid : Prop := fnAfterKindsAgreeRow.holds Try.pinned (OpenSpec.ofChange fnAfterKindsAgreeSpec)

/-- ITS FALSE NEIGHBOUR: 'it returns false'. Refute it at one input. -/
def fnAfterKindsAgreeWrong : ChangeSpec := { name := "fnAfterKindsAgree", fn := fun _ => fun
  | [d1, d2, d3, d4, d5, d6, d7, d8] => { results := [.lit (.bool false)], args := [d1, d2, d3, d4, d5, d6, d7, d8] }
  | _ => none }
def FnAfterKindsAgreeWrongFalsely : Prop := fnAfterKindsAgreeRow.holds Try.pinned (OpenSpec.ofChange fnAfterKindsAgreeWrong)

/-- 'zzlaws_internal_history_b1.FnAfterWriteThenReadBack': WHATEVER THE INPUT: true; the input reads as it did. -/
def fnAfterWriteThenReadBackSpec : ChangeSpec := { name := "fnAfterWriteThenReadBack", fn := fun _ => fun
  | [d1, d2, d3, d4, d5, d6, d7, d8] => { results := [.lit (.bool true)], args := [d1, d2, d3, d4, d5, d6, d7, d8] }
  | _ => none }
def fnAfterWriteThenReadBackRow : OpenClaim := { program := "qxb6601795a", sum := "e9b348c10d6e7d2c31a2bb2cba2e349ab4dae22bef98996262af8096fcdf3d2c", func := "example.com/concordat/concordat/zzlaws_internal_history_b1.FnAfterWriteThenReadBack", spec := "fnAfterWriteThenReadBack", plainKeys := false, apart := false }
def FnAfterWriteThenReadBackSaid : Prop := fnAfterWriteThenReadBackRow.holds Try.pinned (OpenSpec.ofChange fnAfterWriteThenReadBackSpec)

/-- ITS FALSE NEIGHBOUR: 'it returns false'. Refute it at one input. -/
def fnAfterWriteThenReadBackWrong : ChangeSpec := { name := "fnAfterWriteThenReadBack", fn := fun _ => fun
  | [d1, d2, d3, d4, d5, d6, d7, d8] => { results := [.lit (.bool false)], args := [d1, d2, d3, d4, d5, d6, d7, d8] }
  | _ => none }
def FnAfterWriteThenReadBackWrongFalsely : Prop := fnAfterWriteThenReadBackRow.holds Try.pinned (OpenSpec.ofChange fnAfterWriteThenReadBackWrong)

/-- 'zzlaws_internal_history_b1.FnWritersCountTable': WHATEVER THE INPUT: true; the input reads as it did. -/
def fnWritersCountTableSpec : ChangeSpec := { name := "fnWritersCountTable", fn := fun _ => fun
  | [d1, d2, d3, d4, d5, d6, d7, d8] => { results := [.lit (.bool true)], args := [d1, d2, d3, d4, d5, d6, d7, d8] }
  | _ => none }
def fnWritersCountTableRow : OpenClaim := { program := "qxb6601795a", sum := "e9b348c10d6e7d2c31a2bb2cba2e349ab4dae22bef98996262af8096fcdf3d2c", func := "example.com/concordat/concordat/zzlaws_internal_history_b1.FnWritersCountTable", spec := "fnWritersCountTable", plainKeys := false, apart := false }
def FnWritersCountTableSaid : Prop := fnWritersCountTableRow.holds Try.pinned (OpenSpec.ofChange fnWritersCountTableSpec)

/-- ITS FALSE NEIGHBOUR: 'it returns false'. Refute it at one input. -/
def fnWritersCountTableWrong : ChangeSpec := { name := "fnWritersCountTable", fn := fun _ => fun
  | [d1, d2, d3, d4, d5, d6, d7, d8] => { results := [.lit (.bool false)], args := [d1, d2, d3, d4, d5, d6, d7, d8] }
  | _ => none }
def FnWritersCountTableWrongFalsely : Prop := fnWritersCountTableRow.holds Try.pinned (OpenSpec.ofChange fnWritersCountTableWrong)

end Rows
end Go.Proofs.Qxb6601795a
