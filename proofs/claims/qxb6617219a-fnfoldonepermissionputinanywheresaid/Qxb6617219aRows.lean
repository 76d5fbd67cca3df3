/-
  NARROWER THAN 'FOR EVERY INPUT', by the rows' own cells (each row's printed sentence says how): FnHoldsIsOwnEntryOrAGroupsEntry: maps, wideKeys.
  DERIVED. THE GIVEN ROWS OF THIS SEAT. 3 by the template 'for every input the law returns true; each argument reads behind the call as it read before'; 0 by the template 'total and deterministic' (their statements: Qxb6617219aTotals.lean).
  GIVEN WITH THE SEED: the statements are not yours to turn. If you find one false, say at which input.
  Laid BY PROGRAM, IN A SANDBOX (cutbox-rows.mjs): the forced cells as the released guide's own fill.sh prints them over the translation 0110def2696012a5… (all of the seat's roots in one cut). By AI agents, Wed Nov 11 2026. No macro, syntax, notation, axiom, sorry.
-/
import Derived.Test.Qxb6617219aChecked
import GoSem.Claim
import GoSem.ClaimJoined
import GoSem.ClaimMapViews
import Derived.JoinedTies
import Derived.KernelRfl
namespace Go.Proofs.Qxb6617219a
/- THE CELL 'sum', in the pinned program and in every row, IS THE sha256 OF THE DUMP (.gsa) THAT Qxb6617219aProg.lean LOADS. Nothing in Lean hashes anything: it is a label: what it is worth is what the hold of that sum in a sandbox is worth. -/
noncomputable def Try.pinned : Pinned := { name := "qxb6617219a", sum := "0110def2696012a5320cdcb09bf0a474f9d2b7be6263697e9f1c63f8fd904efd", checked := Try.checked }
namespace Rows
def none {H : Type} : Left H := { results := [], args := [] }

/-- 'zzlaws_root_b1.FnFoldSplitsAnywhereInEitherOrder': WHATEVER THE INPUT: true; the input reads as it did. -/
def fnFoldSplitsAnywhereInEitherOrderSpec : ChangeSpec := { name := "fnFoldSplitsAnywhereInEitherOrder", fn := fun _ => fun
  | [d1, d2, d3, d4, d5, d6] => { results := [.lit (.bool true)], args := [d1, d2, d3, d4, d5, d6] }
  | _ => none }
def fnFoldSplitsAnywhereInEitherOrderRow : OpenClaim := { program := "qxb6617219a", sum := "0110def2696012a5320cdcb09bf0a474f9d2b7be6263697e9f1c63f8fd904efd", func := "example.com/privilege/privilege/zzlaws_root_b1.FnFoldSplitsAnywhereInEitherOrder", spec := "fnFoldSplitsAnywhereInEitherOrder", plainKeys := false, apart := false }
def FnFoldSplitsAnywhereInEitherOrderSaid : Prop := fnFoldSplitsAnywhereInEitherOrderRow.holds Try.pinned (OpenSpec.ofChange fnFoldSplitsAnywhereInEitherOrderSpec)

/-- ITS FALSE NEIGHBOUR: 'it returns false'. Refute it at one input. -/
def fnFoldSplitsAnywhereInEitherOrderWrong : ChangeSpec := { name := "fnFoldSplitsAnywhereInEitherOrder", fn := fun _ => fun
  | [d1, d2, d3, d4, d5, d6] => { results := [.lit (.bool false)], args := [d1, d2, d3, d4, d5, d6] }
  | _ => none }
def FnFoldSplitsAnywhereInEitherOrderWrongFalsely : Prop := fnFoldSplitsAnywhereInEitherOrderRow.holds Try.pinned (OpenSpec.ofChange fnFoldSplitsAnywhereInEitherOrderWrong)

/-- 'zzlaws_root_b1.FnFoldOnePermissionPutInAnywhere': WHATEVER THE INPUT: true; the input reads as it did. -/
def fnFoldOnePermissionPutInAnywhereSpec : ChangeSpec := { name := "fnFoldOnePermissionPutInAnywhere", fn := fun _ => fun
  | [d1, d2, d3, d4, d5, d6, d7] => { results := [.lit (.bool true)], args := [d1, d2, d3, d4, d5, d6, d7] }
  | _ => none }
def fnFoldOnePermissionPutInAnywhereRow : OpenClaim := { program := "qxb6617219a", sum := "0110def2696012a5320cdcb09bf0a474f9d2b7be6263697e9f1c63f8fd904efd", func := "example.com/privilege/privilege/zzlaws_root_b1.FnFoldOnePermissionPutInAnywhere", spec := "fnFoldOnePermissionPutInAnywhere", plainKeys := false, apart := false }
def FnFoldOnePermissionPutInAnywhereSaid : Prop := fnFoldOnePermissionPutInAnywhereRow.holds Try.pinned (OpenSpec.ofChange fnFoldOnePermissionPutInAnywhereSpec)

/-- ITS FALSE NEIGHBOUR: 'it returns false'. Refute it at one input. -/
def fnFoldOnePermissionPutInAnywhereWrong : ChangeSpec := { name := "fnFoldOnePermissionPutInAnywhere", fn := fun _ => fun
  | [d1, d2, d3, d4, d5, d6, d7] => { results := [.lit (.bool false)], args := [d1, d2, d3, d4, d5, d6, d7] }
  | _ => none }
def FnFoldOnePermissionPutInAnywhereWrongFalsely : Prop := fnFoldOnePermissionPutInAnywhereRow.holds Try.pinned (OpenSpec.ofChange fnFoldOnePermissionPutInAnywhereWrong)

/-- 'zzlaws_root_b1.FnHoldsIsOwnEntryOrAGroupsEntry': WHATEVER THE INPUT: true; the input reads as it did. -/
def fnHoldsIsOwnEntryOrAGroupsEntrySpec : ChangeSpec := { name := "fnHoldsIsOwnEntryOrAGroupsEntry", fn := fun _ => fun
  | [d1, d2, d3, d4, d5] => { results := [.lit (.bool true)], args := [d1, d2, d3, d4, d5] }
  | _ => none }
def fnHoldsIsOwnEntryOrAGroupsEntryRow : OpenClaim := { program := "qxb6617219a", sum := "0110def2696012a5320cdcb09bf0a474f9d2b7be6263697e9f1c63f8fd904efd", func := "example.com/privilege/privilege/zzlaws_root_b1.FnHoldsIsOwnEntryOrAGroupsEntry", spec := "fnHoldsIsOwnEntryOrAGroupsEntry", maps := true, wideKeys := true, plainKeys := false, apart := false }
def FnHoldsIsOwnEntryOrAGroupsEntrySaid : Prop := fnHoldsIsOwnEntryOrAGroupsEntryRow.holds Try.pinned (OpenSpec.ofChange fnHoldsIsOwnEntryOrAGroupsEntrySpec)

/-- ITS FALSE NEIGHBOUR: 'it returns false'. Refute it at one input. -/
def fnHoldsIsOwnEntryOrAGroupsEntryWrong : ChangeSpec := { name := "fnHoldsIsOwnEntryOrAGroupsEntry", fn := fun _ => fun
  | [d1, d2, d3, d4, d5] => { results := [.lit (.bool false)], args := [d1, d2, d3, d4, d5] }
  | _ => none }
def FnHoldsIsOwnEntryOrAGroupsEntryWrongFalsely : Prop := fnHoldsIsOwnEntryOrAGroupsEntryRow.holds Try.pinned (OpenSpec.ofChange fnHoldsIsOwnEntryOrAGroupsEntryWrong)

end Rows
end Go.Proofs.Qxb6617219a
