/-
  No cell of these rows narrows 'for every input' (looked for: loops, veiled, ifaces, maps, wideKeys, modest, calm, conditions, laid).
  DERIVED. THE GIVEN ROWS OF THIS SEAT. 3 by the template 'for every input the law returns true; each argument reads behind the call as it read before'; 0 by the template 'total and deterministic' (their statements: Qxb6001605aTotals.lean).
  GIVEN WITH THE SEED: the statements are not yours to turn. If you find one false, say at which input.
  Laid BY PROGRAM, IN A SANDBOX (cutbox-rows.mjs): the forced cells as the released guide's own fill.sh prints them over the translation 389b2f1f7bc9552e… (all of the seat's roots in one cut). By AI agents, Wed Nov 11 2026. No macro, syntax, notation, axiom, sorry.
-/
import Derived.Test.Qxb6001605aChecked
import GoSem.Claim
import GoSem.ClaimJoined
import GoSem.ClaimMapViews
import Derived.JoinedTies
import Derived.KernelRfl
namespace Go.Proofs.Qxb6001605a
/- THE CELL 'sum', in the pinned program and in every row, IS THE sha256 OF THE DUMP (.gsa) THAT Qxb6001605aProg.lean LOADS. Nothing in Lean hashes anything: it is a label: what it is worth is what the hold of that sum in a sandbox is worth. -/
noncomputable def Try.pinned : Pinned := { name := "qxb6001605a", sum := "389b2f1f7bc9552e4008a5b8ea045896c86b9eba8f2e6be012b89a74f01522e0", checked := Try.checked }
namespace Rows
def none {H : Type} : Left H := { results := [], args := [] }

/-- 'zzlaws_pkg_interchange_b1.FnFoldedIsCanonicalForm': WHATEVER THE INPUT: true; the input reads as it did. -/
def fnFoldedIsCanonicalFormSpec : ChangeSpec := { name := "fnFoldedIsCanonicalForm", fn := fun _ => fun
  | [d] => { results := [.lit (.bool true)], args := [d] }
  | _ => none }
def fnFoldedIsCanonicalFormRow : OpenClaim := { program := "qxb6001605a", sum := "389b2f1f7bc9552e4008a5b8ea045896c86b9eba8f2e6be012b89a74f01522e0", func := "example.com/zhaomu/zhaomu/zzlaws_pkg_interchange_b1.FnFoldedIsCanonicalForm", spec := "fnFoldedIsCanonicalForm", apart := false }
def FnFoldedIsCanonicalFormSaid : Prop := fnFoldedIsCanonicalFormRow.holds Try.pinned (OpenSpec.ofChange fnFoldedIsCanonicalFormSpec)

/-- ITS FALSE NEIGHBOUR: 'it returns false'. Refute it at one input. -/
def fnFoldedIsCanonicalFormWrong : ChangeSpec := { name := "fnFoldedIsCanonicalForm", fn := fun _ => fun
  | [d] => { results := [.lit (.bool false)], args := [d] }
  | _ => none }
def FnFoldedIsCanonicalFormWrongFalsely : Prop := fnFoldedIsCanonicalFormRow.holds Try.pinned (OpenSpec.ofChange fnFoldedIsCanonicalFormWrong)

/-- 'zzlaws_pkg_interchange_b1.FnFoldedDistributesOverConcat': WHATEVER THE INPUT: true; the input reads as it did. -/
def fnFoldedDistributesOverConcatSpec : ChangeSpec := { name := "fnFoldedDistributesOverConcat", fn := fun _ => fun
  | [d1, d2] => { results := [.lit (.bool true)], args := [d1, d2] }
  | _ => none }
def fnFoldedDistributesOverConcatRow : OpenClaim := { program := "qxb6001605a", sum := "389b2f1f7bc9552e4008a5b8ea045896c86b9eba8f2e6be012b89a74f01522e0", func := "example.com/zhaomu/zhaomu/zzlaws_pkg_interchange_b1.FnFoldedDistributesOverConcat", spec := "fnFoldedDistributesOverConcat", apart := false }
def FnFoldedDistributesOverConcatSaid : Prop := fnFoldedDistributesOverConcatRow.holds Try.pinned (OpenSpec.ofChange fnFoldedDistributesOverConcatSpec)

/-- ITS FALSE NEIGHBOUR: 'it returns false'. Refute it at one input. -/
def fnFoldedDistributesOverConcatWrong : ChangeSpec := { name := "fnFoldedDistributesOverConcat", fn := fun _ => fun
  | [d1, d2] => { results := [.lit (.bool false)], args := [d1, d2] }
  | _ => none }
def FnFoldedDistributesOverConcatWrongFalsely : Prop := fnFoldedDistributesOverConcatRow.holds Try.pinned (OpenSpec.ofChange fnFoldedDistributesOverConcatWrong)

/-- 'zzlaws_pkg_interchange_b1.FnFoldedEqualExactlyUpToASCIICase': WHATEVER THE INPUT: true; the input reads as it did. -/
def fnFoldedEqualExactlyUpToASCIICaseSpec : ChangeSpec := { name := "fnFoldedEqualExactlyUpToASCIICase", fn := fun _ => fun
  | [d1, d2] => { results := [.lit (.bool true)], args := [d1, d2] }
  | _ => none }
def fnFoldedEqualExactlyUpToASCIICaseRow : OpenClaim := { program := "qxb6001605a", sum := "389b2f1f7bc9552e4008a5b8ea045896c86b9eba8f2e6be012b89a74f01522e0", func := "example.com/zhaomu/zhaomu/zzlaws_pkg_interchange_b1.FnFoldedEqualExactlyUpToASCIICase", spec := "fnFoldedEqualExactlyUpToASCIICase", apart := false }
def FnFoldedEqualExactlyUpToASCIICaseSaid : Prop := fnFoldedEqualExactlyUpToASCIICaseRow.holds Try.pinned (OpenSpec.ofChange fnFoldedEqualExactlyUpToASCIICaseSpec)

/-- ITS FALSE NEIGHBOUR: 'it returns false'. Refute it at one input. -/
def fnFoldedEqualExactlyUpToASCIICaseWrong : ChangeSpec := { name := "fnFoldedEqualExactlyUpToASCIICase", fn := fun _ => fun
  | [d1, d2] => { results := [.lit (.bool false)], args := [d1, d2] }
  | _ => none }
def FnFoldedEqualExactlyUpToASCIICaseWrongFalsely : Prop := fnFoldedEqualExactlyUpToASCIICaseRow.holds Try.pinned (OpenSpec.ofChange fnFoldedEqualExactlyUpToASCIICaseWrong)

end Rows
end Go.Proofs.Qxb6001605a
