/-
  No cell of these rows narrows 'for every input' (looked for: loops, veiled, ifaces, maps, wideKeys, modest, calm, conditions, laid).
  DERIVED. THE GIVEN ROWS OF THIS SEAT. 6 by the template 'for every input the law returns true; each argument reads behind the call as it read before'; 0 by the template 'total and deterministic' (their statements: Qxb6619324aTotals.lean).
  GIVEN WITH THE SEED: the statements are not yours to turn. If you find one false, say at which input.
  Laid BY PROGRAM, IN A SANDBOX (cutbox-rows.mjs): the forced cells as the released guide's own fill.sh prints them over the translation 0c678e156cc4bea4… (all of the seat's roots in one cut). By AI agents, Wed Nov 11 2026. No macro, syntax, notation, axiom, sorry.
-/
import Derived.Test.Qxb6619324aChecked
import GoSem.Claim
import GoSem.ClaimJoined
import GoSem.ClaimMapViews
import Derived.JoinedTies
import Derived.KernelRfl
namespace Go.Proofs.Qxb6619324a
/- THE CELL 'sum', in the pinned program and in every row, IS THE sha256 OF THE DUMP (.gsa) THAT Qxb6619324aProg.lean LOADS. Nothing in Lean hashes anything: it is a label: what it is worth is what the hold of that sum in a sandbox is worth. -/
noncomputable def Try.pinned : Pinned := { name := "qxb6619324a", sum := "0c678e156cc4bea463c92d339dd1b08258a879a7f79e473f879b71649241ff7d", checked := Try.checked }
namespace Rows
def none {H : Type} : Left H := { results := [], args := [] }

/-- 'zzlaws_replica_b1.FnSharedPrefixIsLongestCommonPrefix': WHATEVER THE INPUT: true; the input reads as it did. -/
def fnSharedPrefixIsLongestCommonPrefixSpec : ChangeSpec := { name := "fnSharedPrefixIsLongestCommonPrefix", fn := fun _ => fun
  | [d1, d2] => { results := [.lit (.bool true)], args := [d1, d2] }
  | _ => none }
def fnSharedPrefixIsLongestCommonPrefixRow : OpenClaim := { program := "qxb6619324a", sum := "0c678e156cc4bea463c92d339dd1b08258a879a7f79e473f879b71649241ff7d", func := "example.com/gravitate/gravitate/zzlaws_replica_b1.FnSharedPrefixIsLongestCommonPrefix", spec := "fnSharedPrefixIsLongestCommonPrefix", apart := false }
def FnSharedPrefixIsLongestCommonPrefixSaid : Prop := fnSharedPrefixIsLongestCommonPrefixRow.holds Try.pinned (OpenSpec.ofChange fnSharedPrefixIsLongestCommonPrefixSpec)

/-- ITS FALSE NEIGHBOUR: 'it returns false'. Refute it at one input. -/
def fnSharedPrefixIsLongestCommonPrefixWrong : ChangeSpec := { name := "fnSharedPrefixIsLongestCommonPrefix", fn := fun _ => fun
  | [d1, d2] => { results := [.lit (.bool false)], args := [d1, d2] }
  | _ => none }
def FnSharedPrefixIsLongestCommonPrefixWrongFalsely : Prop := fnSharedPrefixIsLongestCommonPrefixRow.holds Try.pinned (OpenSpec.ofChange fnSharedPrefixIsLongestCommonPrefixWrong)

/-- 'zzlaws_replica_b1.FnSharedPrefixAfterCommonHeadAndSymmetric': WHATEVER THE INPUT: true; the input reads as it did. -/
def fnSharedPrefixAfterCommonHeadAndSymmetricSpec : ChangeSpec := { name := "fnSharedPrefixAfterCommonHeadAndSymmetric", fn := fun _ => fun
  | [d1, d2, d3] => { results := [.lit (.bool true)], args := [d1, d2, d3] }
  | _ => none }
def fnSharedPrefixAfterCommonHeadAndSymmetricRow : OpenClaim := { program := "qxb6619324a", sum := "0c678e156cc4bea463c92d339dd1b08258a879a7f79e473f879b71649241ff7d", func := "example.com/gravitate/gravitate/zzlaws_replica_b1.FnSharedPrefixAfterCommonHeadAndSymmetric", spec := "fnSharedPrefixAfterCommonHeadAndSymmetric", apart := false }
def FnSharedPrefixAfterCommonHeadAndSymmetricSaid : Prop := fnSharedPrefixAfterCommonHeadAndSymmetricRow.holds Try.pinned (OpenSpec.ofChange fnSharedPrefixAfterCommonHeadAndSymmetricSpec)

/-- ITS FALSE NEIGHBOUR: 'it returns false'. Refute it at one input. -/
def fnSharedPrefixAfterCommonHeadAndSymmetricWrong : ChangeSpec := { name := "fnSharedPrefixAfterCommonHeadAndSymmetric", fn := fun _ => fun
  | [d1, d2, d3] => { results := [.lit (.bool false)], args := [d1, d2, d3] }
  | _ => none }
def FnSharedPrefixAfterCommonHeadAndSymmetricWrongFalsely : Prop := fnSharedPrefixAfterCommonHeadAndSymmetricRow.holds Try.pinned (OpenSpec.ofChange fnSharedPrefixAfterCommonHeadAndSymmetricWrong)

/-- 'zzlaws_replica_b1.FnPrevIDsSplitAtAnyCut': WHATEVER THE INPUT: true; the input reads as it did. -/
def fnPrevIDsSplitAtAnyCutSpec : ChangeSpec := { name := "fnPrevIDsSplitAtAnyCut", fn := fun _ => fun
  | [d1, d2, d3, d4, d5, d6, d7, d8] => { results := [.lit (.bool true)], args := [d1, d2, d3, d4, d5, d6, d7, d8] }
  | _ => none }
def fnPrevIDsSplitAtAnyCutRow : OpenClaim := { program := "qxb6619324a", sum := "0c678e156cc4bea463c92d339dd1b08258a879a7f79e473f879b71649241ff7d", func := "example.com/gravitate/gravitate/zzlaws_replica_b1.FnPrevIDsSplitAtAnyCut", spec := "fnPrevIDsSplitAtAnyCut", apart := false }
def FnPrevIDsSplitAtAnyCutSaid : Prop := fnPrevIDsSplitAtAnyCutRow.holds Try.pinned (OpenSpec.ofChange fnPrevIDsSplitAtAnyCutSpec)

/-- ITS FALSE NEIGHBOUR: 'it returns false'. Refute it at one input. -/
def fnPrevIDsSplitAtAnyCutWrong : ChangeSpec := { name := "fnPrevIDsSplitAtAnyCut", fn := fun _ => fun
  | [d1, d2, d3, d4, d5, d6, d7, d8] => { results := [.lit (.bool false)], args := [d1, d2, d3, d4, d5, d6, d7, d8] }
  | _ => none }
def FnPrevIDsSplitAtAnyCutWrongFalsely : Prop := fnPrevIDsSplitAtAnyCutRow.holds Try.pinned (OpenSpec.ofChange fnPrevIDsSplitAtAnyCutWrong)

/-- 'zzlaws_replica_b1.FnPrevIDsAgreeWithNames': WHATEVER THE INPUT: true; the input reads as it did. -/
def fnPrevIDsAgreeWithNamesSpec : ChangeSpec := { name := "fnPrevIDsAgreeWithNames", fn := fun _ => fun
  | [d1, d2, d3, d4, d5, d6, d7, d8] => { results := [.lit (.bool true)], args := [d1, d2, d3, d4, d5, d6, d7, d8] }
  | _ => none }
def fnPrevIDsAgreeWithNamesRow : OpenClaim := { program := "qxb6619324a", sum := "0c678e156cc4bea463c92d339dd1b08258a879a7f79e473f879b71649241ff7d", func := "example.com/gravitate/gravitate/zzlaws_replica_b1.FnPrevIDsAgreeWithNames", spec := "fnPrevIDsAgreeWithNames", apart := false }
def FnPrevIDsAgreeWithNamesSaid : Prop := fnPrevIDsAgreeWithNamesRow.holds Try.pinned (OpenSpec.ofChange fnPrevIDsAgreeWithNamesSpec)

/-- ITS FALSE NEIGHBOUR: 'it returns false'. Refute it at one input. -/
def fnPrevIDsAgreeWithNamesWrong : ChangeSpec := { name := "fnPrevIDsAgreeWithNames", fn := fun _ => fun
  | [d1, d2, d3, d4, d5, d6, d7, d8] => { results := [.lit (.bool false)], args := [d1, d2, d3, d4, d5, d6, d7, d8] }
  | _ => none }
def FnPrevIDsAgreeWithNamesWrongFalsely : Prop := fnPrevIDsAgreeWithNamesRow.holds Try.pinned (OpenSpec.ofChange fnPrevIDsAgreeWithNamesWrong)

/-- 'zzlaws_replica_b1.FnRosterNamesIsMembershipAnyOrder': WHATEVER THE INPUT: true; the input reads as it did. -/
def fnRosterNamesIsMembershipAnyOrderSpec : ChangeSpec := { name := "fnRosterNamesIsMembershipAnyOrder", fn := fun _ => fun
  | [d1, d2, d3, d4, d5] => { results := [.lit (.bool true)], args := [d1, d2, d3, d4, d5] }
  | _ => none }
def fnRosterNamesIsMembershipAnyOrderRow : OpenClaim := { program := "qxb6619324a", sum := "0c678e156cc4bea463c92d339dd1b08258a879a7f79e473f879b71649241ff7d", func := "example.com/gravitate/gravitate/zzlaws_replica_b1.FnRosterNamesIsMembershipAnyOrder", spec := "fnRosterNamesIsMembershipAnyOrder", apart := false }
def FnRosterNamesIsMembershipAnyOrderSaid : Prop := fnRosterNamesIsMembershipAnyOrderRow.holds Try.pinned (OpenSpec.ofChange fnRosterNamesIsMembershipAnyOrderSpec)

/-- ITS FALSE NEIGHBOUR: 'it returns false'. Refute it at one input. -/
def fnRosterNamesIsMembershipAnyOrderWrong : ChangeSpec := { name := "fnRosterNamesIsMembershipAnyOrder", fn := fun _ => fun
  | [d1, d2, d3, d4, d5] => { results := [.lit (.bool false)], args := [d1, d2, d3, d4, d5] }
  | _ => none }
def FnRosterNamesIsMembershipAnyOrderWrongFalsely : Prop := fnRosterNamesIsMembershipAnyOrderRow.holds Try.pinned (OpenSpec.ofChange fnRosterNamesIsMembershipAnyOrderWrong)

/-- 'zzlaws_replica_b1.FnRosterNamesInsertAndPurge': WHATEVER THE INPUT: true; the input reads as it did. -/
def fnRosterNamesInsertAndPurgeSpec : ChangeSpec := { name := "fnRosterNamesInsertAndPurge", fn := fun _ => fun
  | [d1, d2, d3, d4, d5, d6, d7, d8] => { results := [.lit (.bool true)], args := [d1, d2, d3, d4, d5, d6, d7, d8] }
  | _ => none }
def fnRosterNamesInsertAndPurgeRow : OpenClaim := { program := "qxb6619324a", sum := "0c678e156cc4bea463c92d339dd1b08258a879a7f79e473f879b71649241ff7d", func := "example.com/gravitate/gravitate/zzlaws_replica_b1.FnRosterNamesInsertAndPurge", spec := "fnRosterNamesInsertAndPurge", apart := false }
def FnRosterNamesInsertAndPurgeSaid : Prop := fnRosterNamesInsertAndPurgeRow.holds Try.pinned (OpenSpec.ofChange fnRosterNamesInsertAndPurgeSpec)

/-- ITS FALSE NEIGHBOUR: 'it returns false'. Refute it at one input. -/
def fnRosterNamesInsertAndPurgeWrong : ChangeSpec := { name := "fnRosterNamesInsertAndPurge", fn := fun _ => fun
  | [d1, d2, d3, d4, d5, d6, d7, d8] => { results := [.lit (.bool false)], args := [d1, d2, d3, d4, d5, d6, d7, d8] }
  | _ => none }
def FnRosterNamesInsertAndPurgeWrongFalsely : Prop := fnRosterNamesInsertAndPurgeRow.holds Try.pinned (OpenSpec.ofChange fnRosterNamesInsertAndPurgeWrong)

end Rows
end Go.Proofs.Qxb6619324a
