/-
  No cell of these rows narrows 'for every input' (looked for: loops, veiled, ifaces, maps, wideKeys, modest, calm, conditions, laid).
  DERIVED. THE GIVEN ROWS OF THIS SEAT. 8 by the template 'for every input the law returns true; each argument reads behind the call as it read before'; 0 by the template 'total and deterministic' (their statements: Qxb6001408aTotals.lean).
  GIVEN WITH THE SEED: the statements are not yours to turn. If you find one false, say at which input.
  Laid BY PROGRAM, IN A SANDBOX (cutbox-rows.mjs): the forced cells as the released guide's own fill.sh prints them over the translation 37b17705d75ad04e… (all of the seat's roots in one cut). By AI agents, Wed Nov 11 2026. No macro, syntax, notation, axiom, sorry.
-/
import Derived.Test.Qxb6001408aChecked
import GoSem.Claim
import GoSem.ClaimJoined
import GoSem.ClaimMapViews
import Derived.JoinedTies
import Derived.KernelRfl
namespace Go.Proofs.Qxb6001408a
/- THE CELL 'sum', in the pinned program and in every row, IS THE sha256 OF THE DUMP (.gsa) THAT Qxb6001408aProg.lean LOADS. Nothing in Lean hashes anything: it is a label: what it is worth is what the hold of that sum in a sandbox is worth. -/
noncomputable def Try.pinned : Pinned := { name := "qxb6001408a", sum := "37b17705d75ad04e3d09f1fd277c7b37a28831b868211d0b92328f8e54020b58", checked := Try.checked }
namespace Rows
def none {H : Type} : Left H := { results := [], args := [] }

/-- 'zzlaws_pkg_access_b1.FnGrantsAnonymousImpliesEveryUser': WHATEVER THE INPUT: true; the input reads as it did. -/
def fnGrantsAnonymousImpliesEveryUserSpec : ChangeSpec := { name := "fnGrantsAnonymousImpliesEveryUser", fn := fun _ => fun
  | [d1, d2, d3, d4] => { results := [.lit (.bool true)], args := [d1, d2, d3, d4] }
  | _ => none }
def fnGrantsAnonymousImpliesEveryUserRow : OpenClaim := { program := "qxb6001408a", sum := "37b17705d75ad04e3d09f1fd277c7b37a28831b868211d0b92328f8e54020b58", func := "example.com/image-depot/image-depot/zzlaws_pkg_access_b1.FnGrantsAnonymousImpliesEveryUser", spec := "fnGrantsAnonymousImpliesEveryUser", apart := false }
def FnGrantsAnonymousImpliesEveryUserSaid : Prop := fnGrantsAnonymousImpliesEveryUserRow.holds Try.pinned (OpenSpec.ofChange fnGrantsAnonymousImpliesEveryUserSpec)

/-- ITS FALSE NEIGHBOUR: 'it returns false'. Refute it at one input. -/
def fnGrantsAnonymousImpliesEveryUserWrong : ChangeSpec := { name := "fnGrantsAnonymousImpliesEveryUser", fn := fun _ => fun
  | [d1, d2, d3, d4] => { results := [.lit (.bool false)], args := [d1, d2, d3, d4] }
  | _ => none }
def FnGrantsAnonymousImpliesEveryUserWrongFalsely : Prop := fnGrantsAnonymousImpliesEveryUserRow.holds Try.pinned (OpenSpec.ofChange fnGrantsAnonymousImpliesEveryUserWrong)

/-- 'zzlaws_pkg_access_b1.FnGrantsDistributesOverActionLists': WHATEVER THE INPUT: true; the input reads as it did. -/
def fnGrantsDistributesOverActionListsSpec : ChangeSpec := { name := "fnGrantsDistributesOverActionLists", fn := fun _ => fun
  | [d1, d2, d3, d4, d5] => { results := [.lit (.bool true)], args := [d1, d2, d3, d4, d5] }
  | _ => none }
def fnGrantsDistributesOverActionListsRow : OpenClaim := { program := "qxb6001408a", sum := "37b17705d75ad04e3d09f1fd277c7b37a28831b868211d0b92328f8e54020b58", func := "example.com/image-depot/image-depot/zzlaws_pkg_access_b1.FnGrantsDistributesOverActionLists", spec := "fnGrantsDistributesOverActionLists", apart := false }
def FnGrantsDistributesOverActionListsSaid : Prop := fnGrantsDistributesOverActionListsRow.holds Try.pinned (OpenSpec.ofChange fnGrantsDistributesOverActionListsSpec)

/-- ITS FALSE NEIGHBOUR: 'it returns false'. Refute it at one input. -/
def fnGrantsDistributesOverActionListsWrong : ChangeSpec := { name := "fnGrantsDistributesOverActionLists", fn := fun _ => fun
  | [d1, d2, d3, d4, d5] => { results := [.lit (.bool false)], args := [d1, d2, d3, d4, d5] }
  | _ => none }
def FnGrantsDistributesOverActionListsWrongFalsely : Prop := fnGrantsDistributesOverActionListsRow.holds Try.pinned (OpenSpec.ofChange fnGrantsDistributesOverActionListsWrong)

/-- 'zzlaws_pkg_access_b1.FnGrantsNamedRuleGrantsOneUserAtMost': WHATEVER THE INPUT: true; the input reads as it did. -/
def fnGrantsNamedRuleGrantsOneUserAtMostSpec : ChangeSpec := { name := "fnGrantsNamedRuleGrantsOneUserAtMost", fn := fun _ => fun
  | [d1, d2, d3, d4, d5] => { results := [.lit (.bool true)], args := [d1, d2, d3, d4, d5] }
  | _ => none }
def fnGrantsNamedRuleGrantsOneUserAtMostRow : OpenClaim := { program := "qxb6001408a", sum := "37b17705d75ad04e3d09f1fd277c7b37a28831b868211d0b92328f8e54020b58", func := "example.com/image-depot/image-depot/zzlaws_pkg_access_b1.FnGrantsNamedRuleGrantsOneUserAtMost", spec := "fnGrantsNamedRuleGrantsOneUserAtMost", apart := false }
def FnGrantsNamedRuleGrantsOneUserAtMostSaid : Prop := fnGrantsNamedRuleGrantsOneUserAtMostRow.holds Try.pinned (OpenSpec.ofChange fnGrantsNamedRuleGrantsOneUserAtMostSpec)

/-- ITS FALSE NEIGHBOUR: 'it returns false'. Refute it at one input. -/
def fnGrantsNamedRuleGrantsOneUserAtMostWrong : ChangeSpec := { name := "fnGrantsNamedRuleGrantsOneUserAtMost", fn := fun _ => fun
  | [d1, d2, d3, d4, d5] => { results := [.lit (.bool false)], args := [d1, d2, d3, d4, d5] }
  | _ => none }
def FnGrantsNamedRuleGrantsOneUserAtMostWrongFalsely : Prop := fnGrantsNamedRuleGrantsOneUserAtMostRow.holds Try.pinned (OpenSpec.ofChange fnGrantsNamedRuleGrantsOneUserAtMostWrong)

/-- 'zzlaws_pkg_access_b1.FnGrantedSplitsOverConcatenatedRules': WHATEVER THE INPUT: true; the input reads as it did. -/
def fnGrantedSplitsOverConcatenatedRulesSpec : ChangeSpec := { name := "fnGrantedSplitsOverConcatenatedRules", fn := fun _ => fun
  | [d1, d2, d3, d4, d5, d6, d7, d8] => { results := [.lit (.bool true)], args := [d1, d2, d3, d4, d5, d6, d7, d8] }
  | _ => none }
def fnGrantedSplitsOverConcatenatedRulesRow : OpenClaim := { program := "qxb6001408a", sum := "37b17705d75ad04e3d09f1fd277c7b37a28831b868211d0b92328f8e54020b58", func := "example.com/image-depot/image-depot/zzlaws_pkg_access_b1.FnGrantedSplitsOverConcatenatedRules", spec := "fnGrantedSplitsOverConcatenatedRules", apart := false }
def FnGrantedSplitsOverConcatenatedRulesSaid : Prop := fnGrantedSplitsOverConcatenatedRulesRow.holds Try.pinned (OpenSpec.ofChange fnGrantedSplitsOverConcatenatedRulesSpec)

/-- ITS FALSE NEIGHBOUR: 'it returns false'. Refute it at one input. -/
def fnGrantedSplitsOverConcatenatedRulesWrong : ChangeSpec := { name := "fnGrantedSplitsOverConcatenatedRules", fn := fun _ => fun
  | [d1, d2, d3, d4, d5, d6, d7, d8] => { results := [.lit (.bool false)], args := [d1, d2, d3, d4, d5, d6, d7, d8] }
  | _ => none }
def FnGrantedSplitsOverConcatenatedRulesWrongFalsely : Prop := fnGrantedSplitsOverConcatenatedRulesRow.holds Try.pinned (OpenSpec.ofChange fnGrantedSplitsOverConcatenatedRulesWrong)

/-- 'zzlaws_pkg_access_b1.FnGrantedAnonymousIsSubsequenceOfSignedIn': WHATEVER THE INPUT: true; the input reads as it did. -/
def fnGrantedAnonymousIsSubsequenceOfSignedInSpec : ChangeSpec := { name := "fnGrantedAnonymousIsSubsequenceOfSignedIn", fn := fun _ => fun
  | [d1, d2, d3, d4, d5] => { results := [.lit (.bool true)], args := [d1, d2, d3, d4, d5] }
  | _ => none }
def fnGrantedAnonymousIsSubsequenceOfSignedInRow : OpenClaim := { program := "qxb6001408a", sum := "37b17705d75ad04e3d09f1fd277c7b37a28831b868211d0b92328f8e54020b58", func := "example.com/image-depot/image-depot/zzlaws_pkg_access_b1.FnGrantedAnonymousIsSubsequenceOfSignedIn", spec := "fnGrantedAnonymousIsSubsequenceOfSignedIn", apart := false }
def FnGrantedAnonymousIsSubsequenceOfSignedInSaid : Prop := fnGrantedAnonymousIsSubsequenceOfSignedInRow.holds Try.pinned (OpenSpec.ofChange fnGrantedAnonymousIsSubsequenceOfSignedInSpec)

/-- ITS FALSE NEIGHBOUR: 'it returns false'. Refute it at one input. -/
def fnGrantedAnonymousIsSubsequenceOfSignedInWrong : ChangeSpec := { name := "fnGrantedAnonymousIsSubsequenceOfSignedIn", fn := fun _ => fun
  | [d1, d2, d3, d4, d5] => { results := [.lit (.bool false)], args := [d1, d2, d3, d4, d5] }
  | _ => none }
def FnGrantedAnonymousIsSubsequenceOfSignedInWrongFalsely : Prop := fnGrantedAnonymousIsSubsequenceOfSignedInRow.holds Try.pinned (OpenSpec.ofChange fnGrantedAnonymousIsSubsequenceOfSignedInWrong)

/-- 'zzlaws_pkg_access_b1.FnAllowsAgreesWithGranted': WHATEVER THE INPUT: true; the input reads as it did. -/
def fnAllowsAgreesWithGrantedSpec : ChangeSpec := { name := "fnAllowsAgreesWithGranted", fn := fun _ => fun
  | [d1, d2, d3, d4, d5, d6] => { results := [.lit (.bool true)], args := [d1, d2, d3, d4, d5, d6] }
  | _ => none }
def fnAllowsAgreesWithGrantedRow : OpenClaim := { program := "qxb6001408a", sum := "37b17705d75ad04e3d09f1fd277c7b37a28831b868211d0b92328f8e54020b58", func := "example.com/image-depot/image-depot/zzlaws_pkg_access_b1.FnAllowsAgreesWithGranted", spec := "fnAllowsAgreesWithGranted", apart := false }
def FnAllowsAgreesWithGrantedSaid : Prop := fnAllowsAgreesWithGrantedRow.holds Try.pinned (OpenSpec.ofChange fnAllowsAgreesWithGrantedSpec)

/-- ITS FALSE NEIGHBOUR: 'it returns false'. Refute it at one input. -/
def fnAllowsAgreesWithGrantedWrong : ChangeSpec := { name := "fnAllowsAgreesWithGranted", fn := fun _ => fun
  | [d1, d2, d3, d4, d5, d6] => { results := [.lit (.bool false)], args := [d1, d2, d3, d4, d5, d6] }
  | _ => none }
def FnAllowsAgreesWithGrantedWrongFalsely : Prop := fnAllowsAgreesWithGrantedRow.holds Try.pinned (OpenSpec.ofChange fnAllowsAgreesWithGrantedWrong)

/-- 'zzlaws_pkg_access_b1.FnAllowsIsUnionOverRulesAndOrderFree': WHATEVER THE INPUT: true; the input reads as it did. -/
def fnAllowsIsUnionOverRulesAndOrderFreeSpec : ChangeSpec := { name := "fnAllowsIsUnionOverRulesAndOrderFree", fn := fun _ => fun
  | [d1, d2, d3, d4, d5, d6, d7, d8, d9] => { results := [.lit (.bool true)], args := [d1, d2, d3, d4, d5, d6, d7, d8, d9] }
  | _ => none }
def fnAllowsIsUnionOverRulesAndOrderFreeRow : OpenClaim := { program := "qxb6001408a", sum := "37b17705d75ad04e3d09f1fd277c7b37a28831b868211d0b92328f8e54020b58", func := "example.com/image-depot/image-depot/zzlaws_pkg_access_b1.FnAllowsIsUnionOverRulesAndOrderFree", spec := "fnAllowsIsUnionOverRulesAndOrderFree", apart := false }
def FnAllowsIsUnionOverRulesAndOrderFreeSaid : Prop := fnAllowsIsUnionOverRulesAndOrderFreeRow.holds Try.pinned (OpenSpec.ofChange fnAllowsIsUnionOverRulesAndOrderFreeSpec)

/-- ITS FALSE NEIGHBOUR: 'it returns false'. Refute it at one input. -/
def fnAllowsIsUnionOverRulesAndOrderFreeWrong : ChangeSpec := { name := "fnAllowsIsUnionOverRulesAndOrderFree", fn := fun _ => fun
  | [d1, d2, d3, d4, d5, d6, d7, d8, d9] => { results := [.lit (.bool false)], args := [d1, d2, d3, d4, d5, d6, d7, d8, d9] }
  | _ => none }
def FnAllowsIsUnionOverRulesAndOrderFreeWrongFalsely : Prop := fnAllowsIsUnionOverRulesAndOrderFreeRow.holds Try.pinned (OpenSpec.ofChange fnAllowsIsUnionOverRulesAndOrderFreeWrong)

/-- 'zzlaws_pkg_access_b1.FnAllowsAnonymousImpliesSignedIn': WHATEVER THE INPUT: true; the input reads as it did. -/
def fnAllowsAnonymousImpliesSignedInSpec : ChangeSpec := { name := "fnAllowsAnonymousImpliesSignedIn", fn := fun _ => fun
  | [d1, d2, d3, d4, d5, d6] => { results := [.lit (.bool true)], args := [d1, d2, d3, d4, d5, d6] }
  | _ => none }
def fnAllowsAnonymousImpliesSignedInRow : OpenClaim := { program := "qxb6001408a", sum := "37b17705d75ad04e3d09f1fd277c7b37a28831b868211d0b92328f8e54020b58", func := "example.com/image-depot/image-depot/zzlaws_pkg_access_b1.FnAllowsAnonymousImpliesSignedIn", spec := "fnAllowsAnonymousImpliesSignedIn", apart := false }
def FnAllowsAnonymousImpliesSignedInSaid : Prop := fnAllowsAnonymousImpliesSignedInRow.holds Try.pinned (OpenSpec.ofChange fnAllowsAnonymousImpliesSignedInSpec)

/-- ITS FALSE NEIGHBOUR: 'it returns false'. Refute it at one input. -/
def fnAllowsAnonymousImpliesSignedInWrong : ChangeSpec := { name := "fnAllowsAnonymousImpliesSignedIn", fn := fun _ => fun
  | [d1, d2, d3, d4, d5, d6] => { results := [.lit (.bool false)], args := [d1, d2, d3, d4, d5, d6] }
  | _ => none }
def FnAllowsAnonymousImpliesSignedInWrongFalsely : Prop := fnAllowsAnonymousImpliesSignedInRow.holds Try.pinned (OpenSpec.ofChange fnAllowsAnonymousImpliesSignedInWrong)

end Rows
end Go.Proofs.Qxb6001408a
