/-
  No cell of these rows narrows 'for every input' (looked for: loops, veiled, ifaces, maps, wideKeys, modest, calm, conditions, laid).
  DERIVED. THE GIVEN ROWS OF THIS SEAT. 5 by the template 'for every input the law returns true; each argument reads behind the call as it read before'; 0 by the template 'total and deterministic' (their statements: Qxb6603792aTotals.lean).
  GIVEN WITH THE SEED: the statements are not yours to turn. If you find one false, say at which input.
  Laid BY PROGRAM, IN A SANDBOX (cutbox-rows.mjs): the forced cells as the released guide's own fill.sh prints them over the translation 0df25ea90af4e5db… (all of the seat's roots in one cut). By AI agents, Wed Nov 11 2026. No macro, syntax, notation, axiom, sorry.
-/
import Derived.Test.Qxb6603792aChecked
import GoSem.Claim
import GoSem.ClaimJoined
import GoSem.ClaimMapViews
import Derived.JoinedTies
import Derived.KernelRfl
namespace Go.Proofs.Qxb6603792a
/- THE CELL 'sum', in the pinned program and in every row, IS THE sha256 OF THE DUMP (.gsa) THAT Qxb6603792aProg.lean LOADS. Nothing in Lean hashes anything: it is a label: what it is worth is what the hold of that sum in a sandbox is worth. -/
noncomputable def Try.pinned : Pinned := { name := "qxb6603792a", sum := "0df25ea90af4e5db3312df7c5ae9af96da5de719b5cc00ce114e7b9fa200a241", checked := Try.checked }
namespace Rows
def none {H : Type} : Left H := { results := [], args := [] }

/-- 'zzlaws_root_b1.FnNumberEndIsLongestNumberByAutomaton': WHATEVER THE INPUT: true; the input reads as it did. -/
def fnNumberEndIsLongestNumberByAutomatonSpec : ChangeSpec := { name := "fnNumberEndIsLongestNumberByAutomaton", fn := fun _ => fun
  | [d1, d2, d3] => { results := [.lit (.bool true)], args := [d1, d2, d3] }
  | _ => none }
def fnNumberEndIsLongestNumberByAutomatonRow : OpenClaim := { program := "qxb6603792a", sum := "0df25ea90af4e5db3312df7c5ae9af96da5de719b5cc00ce114e7b9fa200a241", func := "example.com/castwright/castwright/zzlaws_root_b1.FnNumberEndIsLongestNumberByAutomaton", spec := "fnNumberEndIsLongestNumberByAutomaton", apart := false }
def FnNumberEndIsLongestNumberByAutomatonSaid : Prop := fnNumberEndIsLongestNumberByAutomatonRow.holds Try.pinned (OpenSpec.ofChange fnNumberEndIsLongestNumberByAutomatonSpec)

/-- ITS FALSE NEIGHBOUR: 'it returns false'. Refute it at one input. -/
def fnNumberEndIsLongestNumberByAutomatonWrong : ChangeSpec := { name := "fnNumberEndIsLongestNumberByAutomaton", fn := fun _ => fun
  | [d1, d2, d3] => { results := [.lit (.bool false)], args := [d1, d2, d3] }
  | _ => none }
def FnNumberEndIsLongestNumberByAutomatonWrongFalsely : Prop := fnNumberEndIsLongestNumberByAutomatonRow.holds Try.pinned (OpenSpec.ofChange fnNumberEndIsLongestNumberByAutomatonWrong)

/-- 'zzlaws_root_b1.FnNumberEndStaysInsideAndStandsAlone': WHATEVER THE INPUT: true; the input reads as it did. -/
def fnNumberEndStaysInsideAndStandsAloneSpec : ChangeSpec := { name := "fnNumberEndStaysInsideAndStandsAlone", fn := fun _ => fun
  | [d1, d2, d3] => { results := [.lit (.bool true)], args := [d1, d2, d3] }
  | _ => none }
def fnNumberEndStaysInsideAndStandsAloneRow : OpenClaim := { program := "qxb6603792a", sum := "0df25ea90af4e5db3312df7c5ae9af96da5de719b5cc00ce114e7b9fa200a241", func := "example.com/castwright/castwright/zzlaws_root_b1.FnNumberEndStaysInsideAndStandsAlone", spec := "fnNumberEndStaysInsideAndStandsAlone", apart := false }
def FnNumberEndStaysInsideAndStandsAloneSaid : Prop := fnNumberEndStaysInsideAndStandsAloneRow.holds Try.pinned (OpenSpec.ofChange fnNumberEndStaysInsideAndStandsAloneSpec)

/-- ITS FALSE NEIGHBOUR: 'it returns false'. Refute it at one input. -/
def fnNumberEndStaysInsideAndStandsAloneWrong : ChangeSpec := { name := "fnNumberEndStaysInsideAndStandsAlone", fn := fun _ => fun
  | [d1, d2, d3] => { results := [.lit (.bool false)], args := [d1, d2, d3] }
  | _ => none }
def FnNumberEndStaysInsideAndStandsAloneWrongFalsely : Prop := fnNumberEndStaysInsideAndStandsAloneRow.holds Try.pinned (OpenSpec.ofChange fnNumberEndStaysInsideAndStandsAloneWrong)

/-- 'zzlaws_root_b1.FnNumberEndIgnoresTextBefore': WHATEVER THE INPUT: true; the input reads as it did. -/
def fnNumberEndIgnoresTextBeforeSpec : ChangeSpec := { name := "fnNumberEndIgnoresTextBefore", fn := fun _ => fun
  | [d1, d2, d3, d4] => { results := [.lit (.bool true)], args := [d1, d2, d3, d4] }
  | _ => none }
def fnNumberEndIgnoresTextBeforeRow : OpenClaim := { program := "qxb6603792a", sum := "0df25ea90af4e5db3312df7c5ae9af96da5de719b5cc00ce114e7b9fa200a241", func := "example.com/castwright/castwright/zzlaws_root_b1.FnNumberEndIgnoresTextBefore", spec := "fnNumberEndIgnoresTextBefore", apart := false }
def FnNumberEndIgnoresTextBeforeSaid : Prop := fnNumberEndIgnoresTextBeforeRow.holds Try.pinned (OpenSpec.ofChange fnNumberEndIgnoresTextBeforeSpec)

/-- ITS FALSE NEIGHBOUR: 'it returns false'. Refute it at one input. -/
def fnNumberEndIgnoresTextBeforeWrong : ChangeSpec := { name := "fnNumberEndIgnoresTextBefore", fn := fun _ => fun
  | [d1, d2, d3, d4] => { results := [.lit (.bool false)], args := [d1, d2, d3, d4] }
  | _ => none }
def FnNumberEndIgnoresTextBeforeWrongFalsely : Prop := fnNumberEndIgnoresTextBeforeRow.holds Try.pinned (OpenSpec.ofChange fnNumberEndIgnoresTextBeforeWrong)

/-- 'zzlaws_root_b1.FnAddSecondIsTheNextSecond': WHATEVER THE INPUT: true; the input reads as it did. -/
def fnAddSecondIsTheNextSecondSpec : ChangeSpec := { name := "fnAddSecondIsTheNextSecond", fn := fun _ => fun
  | [d1, d2, d3, d4, d5, d6, d7, d8] => { results := [.lit (.bool true)], args := [d1, d2, d3, d4, d5, d6, d7, d8] }
  | _ => none }
def fnAddSecondIsTheNextSecondRow : OpenClaim := { program := "qxb6603792a", sum := "0df25ea90af4e5db3312df7c5ae9af96da5de719b5cc00ce114e7b9fa200a241", func := "example.com/castwright/castwright/zzlaws_root_b1.FnAddSecondIsTheNextSecond", spec := "fnAddSecondIsTheNextSecond", apart := false }
def FnAddSecondIsTheNextSecondSaid : Prop := fnAddSecondIsTheNextSecondRow.holds Try.pinned (OpenSpec.ofChange fnAddSecondIsTheNextSecondSpec)

/-- ITS FALSE NEIGHBOUR: 'it returns false'. Refute it at one input. -/
def fnAddSecondIsTheNextSecondWrong : ChangeSpec := { name := "fnAddSecondIsTheNextSecond", fn := fun _ => fun
  | [d1, d2, d3, d4, d5, d6, d7, d8] => { results := [.lit (.bool false)], args := [d1, d2, d3, d4, d5, d6, d7, d8] }
  | _ => none }
def FnAddSecondIsTheNextSecondWrongFalsely : Prop := fnAddSecondIsTheNextSecondRow.holds Try.pinned (OpenSpec.ofChange fnAddSecondIsTheNextSecondWrong)

/-- 'zzlaws_root_b1.FnAddSecondTimeAndDatetimeDifferOnlyAtMidnight': WHATEVER THE INPUT: true; the input reads as it did. -/
def fnAddSecondTimeAndDatetimeDifferOnlyAtMidnightSpec : ChangeSpec := { name := "fnAddSecondTimeAndDatetimeDifferOnlyAtMidnight", fn := fun _ => fun
  | [d1, d2, d3, d4, d5, d6, d7] => { results := [.lit (.bool true)], args := [d1, d2, d3, d4, d5, d6, d7] }
  | _ => none }
def fnAddSecondTimeAndDatetimeDifferOnlyAtMidnightRow : OpenClaim := { program := "qxb6603792a", sum := "0df25ea90af4e5db3312df7c5ae9af96da5de719b5cc00ce114e7b9fa200a241", func := "example.com/castwright/castwright/zzlaws_root_b1.FnAddSecondTimeAndDatetimeDifferOnlyAtMidnight", spec := "fnAddSecondTimeAndDatetimeDifferOnlyAtMidnight", apart := false }
def FnAddSecondTimeAndDatetimeDifferOnlyAtMidnightSaid : Prop := fnAddSecondTimeAndDatetimeDifferOnlyAtMidnightRow.holds Try.pinned (OpenSpec.ofChange fnAddSecondTimeAndDatetimeDifferOnlyAtMidnightSpec)

/-- ITS FALSE NEIGHBOUR: 'it returns false'. Refute it at one input. -/
def fnAddSecondTimeAndDatetimeDifferOnlyAtMidnightWrong : ChangeSpec := { name := "fnAddSecondTimeAndDatetimeDifferOnlyAtMidnight", fn := fun _ => fun
  | [d1, d2, d3, d4, d5, d6, d7] => { results := [.lit (.bool false)], args := [d1, d2, d3, d4, d5, d6, d7] }
  | _ => none }
def FnAddSecondTimeAndDatetimeDifferOnlyAtMidnightWrongFalsely : Prop := fnAddSecondTimeAndDatetimeDifferOnlyAtMidnightRow.holds Try.pinned (OpenSpec.ofChange fnAddSecondTimeAndDatetimeDifferOnlyAtMidnightWrong)

end Rows
end Go.Proofs.Qxb6603792a
