/-
  No cell of these rows narrows 'for every input' (looked for: loops, veiled, ifaces, maps, wideKeys, modest, calm, conditions, laid).
  DERIVED. THE GIVEN ROWS OF THIS SEAT. 5 by the template 'for every input the law returns true; each argument reads behind the call as it read before'; 0 by the template 'total and deterministic' (their statements: Qxb6601683aTotals.lean).
  GIVEN WITH THE SEED: the statements are not yours to turn. If you find one false, say at which input.
  Laid BY PROGRAM, IN A SANDBOX (cutbox-rows.mjs): the forced cells as the released guide's own fill.sh prints them over the translation 3a347258ba987eff… (all of the seat's roots in one cut). By AI agents, Wed Nov 11 2026. No macro, syntax, notation, axiom, sorry.
-/
import Derived.Test.Qxb6601683aChecked
import GoSem.Claim
import GoSem.ClaimJoined
import GoSem.ClaimMapViews
import Derived.JoinedTies
import Derived.KernelRfl
namespace Go.Proofs.Qxb6601683a
/- THE CELL 'sum', in the pinned program and in every row, IS THE sha256 OF THE DUMP (.gsa) THAT Qxb6601683aProg.lean LOADS. Nothing in Lean hashes anything: it is a label: what it is worth is what the hold of that sum in a sandbox is worth. -/
noncomputable def Try.pinned : Pinned := { name := "qxb6601683a", sum := "3a347258ba987effbdfa53a3bfa1791368fd9659da30e665aaabc99cae512c22", checked := Try.checked }
namespace Rows
def none {H : Type} : Left H := { results := [], args := [] }

/-- 'zzlaws_internal_cdr_b1.FnDaysInMatchesCivilDayCount': WHATEVER THE INPUT: true; the input reads as it did. -/
def fnDaysInMatchesCivilDayCountSpec : ChangeSpec := { name := "fnDaysInMatchesCivilDayCount", fn := fun _ => fun
  | [d1, d2] => { results := [.lit (.bool true)], args := [d1, d2] }
  | _ => none }
def fnDaysInMatchesCivilDayCountRow : OpenClaim := { program := "qxb6601683a", sum := "3a347258ba987effbdfa53a3bfa1791368fd9659da30e665aaabc99cae512c22", func := "example.com/mediary/mediary/zzlaws_internal_cdr_b1.FnDaysInMatchesCivilDayCount", spec := "fnDaysInMatchesCivilDayCount", apart := false }
def FnDaysInMatchesCivilDayCountSaid : Prop := fnDaysInMatchesCivilDayCountRow.holds Try.pinned (OpenSpec.ofChange fnDaysInMatchesCivilDayCountSpec)

/-- ITS FALSE NEIGHBOUR: 'it returns false'. Refute it at one input. -/
def fnDaysInMatchesCivilDayCountWrong : ChangeSpec := { name := "fnDaysInMatchesCivilDayCount", fn := fun _ => fun
  | [d1, d2] => { results := [.lit (.bool false)], args := [d1, d2] }
  | _ => none }
def FnDaysInMatchesCivilDayCountWrongFalsely : Prop := fnDaysInMatchesCivilDayCountRow.holds Try.pinned (OpenSpec.ofChange fnDaysInMatchesCivilDayCountWrong)

/-- 'zzlaws_internal_cdr_b1.FnAppendDigitsReadsNibblesToTerminator': WHATEVER THE INPUT: true; the input reads as it did. -/
def fnAppendDigitsReadsNibblesToTerminatorSpec : ChangeSpec := { name := "fnAppendDigitsReadsNibblesToTerminator", fn := fun _ => fun
  | [d1, d2] => { results := [.lit (.bool true)], args := [d1, d2] }
  | _ => none }
def fnAppendDigitsReadsNibblesToTerminatorRow : OpenClaim := { program := "qxb6601683a", sum := "3a347258ba987effbdfa53a3bfa1791368fd9659da30e665aaabc99cae512c22", func := "example.com/mediary/mediary/zzlaws_internal_cdr_b1.FnAppendDigitsReadsNibblesToTerminator", spec := "fnAppendDigitsReadsNibblesToTerminator", apart := false }
def FnAppendDigitsReadsNibblesToTerminatorSaid : Prop := fnAppendDigitsReadsNibblesToTerminatorRow.holds Try.pinned (OpenSpec.ofChange fnAppendDigitsReadsNibblesToTerminatorSpec)

/-- ITS FALSE NEIGHBOUR: 'it returns false'. Refute it at one input. -/
def fnAppendDigitsReadsNibblesToTerminatorWrong : ChangeSpec := { name := "fnAppendDigitsReadsNibblesToTerminator", fn := fun _ => fun
  | [d1, d2] => { results := [.lit (.bool false)], args := [d1, d2] }
  | _ => none }
def FnAppendDigitsReadsNibblesToTerminatorWrongFalsely : Prop := fnAppendDigitsReadsNibblesToTerminatorRow.holds Try.pinned (OpenSpec.ofChange fnAppendDigitsReadsNibblesToTerminatorWrong)

/-- 'zzlaws_internal_cdr_b1.FnAppendDigitsDecodesPackedDigits': WHATEVER THE INPUT: true; the input reads as it did. -/
def fnAppendDigitsDecodesPackedDigitsSpec : ChangeSpec := { name := "fnAppendDigitsDecodesPackedDigits", fn := fun _ => fun
  | [d1, d2] => { results := [.lit (.bool true)], args := [d1, d2] }
  | _ => none }
def fnAppendDigitsDecodesPackedDigitsRow : OpenClaim := { program := "qxb6601683a", sum := "3a347258ba987effbdfa53a3bfa1791368fd9659da30e665aaabc99cae512c22", func := "example.com/mediary/mediary/zzlaws_internal_cdr_b1.FnAppendDigitsDecodesPackedDigits", spec := "fnAppendDigitsDecodesPackedDigits", apart := false }
def FnAppendDigitsDecodesPackedDigitsSaid : Prop := fnAppendDigitsDecodesPackedDigitsRow.holds Try.pinned (OpenSpec.ofChange fnAppendDigitsDecodesPackedDigitsSpec)

/-- ITS FALSE NEIGHBOUR: 'it returns false'. Refute it at one input. -/
def fnAppendDigitsDecodesPackedDigitsWrong : ChangeSpec := { name := "fnAppendDigitsDecodesPackedDigits", fn := fun _ => fun
  | [d1, d2] => { results := [.lit (.bool false)], args := [d1, d2] }
  | _ => none }
def FnAppendDigitsDecodesPackedDigitsWrongFalsely : Prop := fnAppendDigitsDecodesPackedDigitsRow.holds Try.pinned (OpenSpec.ofChange fnAppendDigitsDecodesPackedDigitsWrong)

/-- 'zzlaws_internal_cdr_b1.FnAppendRFC3339LaysOutFields': WHATEVER THE INPUT: true; the input reads as it did. -/
def fnAppendRFC3339LaysOutFieldsSpec : ChangeSpec := { name := "fnAppendRFC3339LaysOutFields", fn := fun _ => fun
  | [d1, d2, d3] => { results := [.lit (.bool true)], args := [d1, d2, d3] }
  | _ => none }
def fnAppendRFC3339LaysOutFieldsRow : OpenClaim := { program := "qxb6601683a", sum := "3a347258ba987effbdfa53a3bfa1791368fd9659da30e665aaabc99cae512c22", func := "example.com/mediary/mediary/zzlaws_internal_cdr_b1.FnAppendRFC3339LaysOutFields", spec := "fnAppendRFC3339LaysOutFields", apart := false }
def FnAppendRFC3339LaysOutFieldsSaid : Prop := fnAppendRFC3339LaysOutFieldsRow.holds Try.pinned (OpenSpec.ofChange fnAppendRFC3339LaysOutFieldsSpec)

/-- ITS FALSE NEIGHBOUR: 'it returns false'. Refute it at one input. -/
def fnAppendRFC3339LaysOutFieldsWrong : ChangeSpec := { name := "fnAppendRFC3339LaysOutFields", fn := fun _ => fun
  | [d1, d2, d3] => { results := [.lit (.bool false)], args := [d1, d2, d3] }
  | _ => none }
def FnAppendRFC3339LaysOutFieldsWrongFalsely : Prop := fnAppendRFC3339LaysOutFieldsRow.holds Try.pinned (OpenSpec.ofChange fnAppendRFC3339LaysOutFieldsWrong)

/-- 'zzlaws_internal_cdr_b1.FnAppendRFC3339TextOrderIsTimeOrder': WHATEVER THE INPUT: true; the input reads as it did. -/
def fnAppendRFC3339TextOrderIsTimeOrderSpec : ChangeSpec := { name := "fnAppendRFC3339TextOrderIsTimeOrder", fn := fun _ => fun
  | [d1, d2, d3, d4, d5] => { results := [.lit (.bool true)], args := [d1, d2, d3, d4, d5] }
  | _ => none }
def fnAppendRFC3339TextOrderIsTimeOrderRow : OpenClaim := { program := "qxb6601683a", sum := "3a347258ba987effbdfa53a3bfa1791368fd9659da30e665aaabc99cae512c22", func := "example.com/mediary/mediary/zzlaws_internal_cdr_b1.FnAppendRFC3339TextOrderIsTimeOrder", spec := "fnAppendRFC3339TextOrderIsTimeOrder", apart := false }
def FnAppendRFC3339TextOrderIsTimeOrderSaid : Prop := fnAppendRFC3339TextOrderIsTimeOrderRow.holds Try.pinned (OpenSpec.ofChange fnAppendRFC3339TextOrderIsTimeOrderSpec)

/-- ITS FALSE NEIGHBOUR: 'it returns false'. Refute it at one input. -/
def fnAppendRFC3339TextOrderIsTimeOrderWrong : ChangeSpec := { name := "fnAppendRFC3339TextOrderIsTimeOrder", fn := fun _ => fun
  | [d1, d2, d3, d4, d5] => { results := [.lit (.bool false)], args := [d1, d2, d3, d4, d5] }
  | _ => none }
def FnAppendRFC3339TextOrderIsTimeOrderWrongFalsely : Prop := fnAppendRFC3339TextOrderIsTimeOrderRow.holds Try.pinned (OpenSpec.ofChange fnAppendRFC3339TextOrderIsTimeOrderWrong)

end Rows
end Go.Proofs.Qxb6601683a
