/-
  No cell of these rows narrows 'for every input' (looked for: loops, veiled, ifaces, maps, wideKeys, modest, calm, conditions, laid).
  DERIVED. THE GIVEN ROWS OF THIS SEAT. 2 by the template 'for every input the law returns true; each argument reads behind the call as it read before'; 0 by the template 'total and deterministic' (their statements: Qxb6603166aTotals.lean).
  GIVEN WITH THE SEED: the statements are not yours to turn. If you find one false, say at which input.
  Laid BY PROGRAM, IN A SANDBOX (cutbox-rows.mjs): the forced cells as the released guide's own fill.sh prints them over the translation a2eda1c0fd5ea798… (all of the seat's roots in one cut). By AI agents, Wed Nov 11 2026. No macro, syntax, notation, axiom, sorry.
-/
import Derived.Test.Qxb6603166aChecked
import GoSem.Claim
import GoSem.ClaimJoined
import GoSem.ClaimMapViews
import Derived.JoinedTies
import Derived.KernelRfl
namespace Go.Proofs.Qxb6603166a
/- THE CELL 'sum', in the pinned program and in every row, IS THE sha256 OF THE DUMP (.gsa) THAT Qxb6603166aProg.lean LOADS. Nothing in Lean hashes anything: it is a label: what it is worth is what the hold of that sum in a sandbox is worth. -/
noncomputable def Try.pinned : Pinned := { name := "qxb6603166a", sum := "a2eda1c0fd5ea798d9903aab1dd257ea909199dfeb4a03e28ce5d5768c53af98", checked := Try.checked }
namespace Rows
def none {H : Type} : Left H := { results := [], args := [] }

/-- 'zzlaws_pkg_schedule_b1.FnIsDigitsIsNonEmptyAsciiDigits': WHATEVER THE INPUT: true; the input reads as it did. -/
def fnIsDigitsIsNonEmptyAsciiDigitsSpec : ChangeSpec := { name := "fnIsDigitsIsNonEmptyAsciiDigits", fn := fun _ => fun
  | [d] => { results := [.lit (.bool true)], args := [d] }
  | _ => none }
def fnIsDigitsIsNonEmptyAsciiDigitsRow : OpenClaim := { program := "qxb6603166a", sum := "a2eda1c0fd5ea798d9903aab1dd257ea909199dfeb4a03e28ce5d5768c53af98", func := "example.com/rowclock/rowclock/zzlaws_pkg_schedule_b1.FnIsDigitsIsNonEmptyAsciiDigits", spec := "fnIsDigitsIsNonEmptyAsciiDigits", apart := false }
def FnIsDigitsIsNonEmptyAsciiDigitsSaid : Prop := fnIsDigitsIsNonEmptyAsciiDigitsRow.holds Try.pinned (OpenSpec.ofChange fnIsDigitsIsNonEmptyAsciiDigitsSpec)

/-- ITS FALSE NEIGHBOUR: 'it returns false'. Refute it at one input. -/
def fnIsDigitsIsNonEmptyAsciiDigitsWrong : ChangeSpec := { name := "fnIsDigitsIsNonEmptyAsciiDigits", fn := fun _ => fun
  | [d] => { results := [.lit (.bool false)], args := [d] }
  | _ => none }
def FnIsDigitsIsNonEmptyAsciiDigitsWrongFalsely : Prop := fnIsDigitsIsNonEmptyAsciiDigitsRow.holds Try.pinned (OpenSpec.ofChange fnIsDigitsIsNonEmptyAsciiDigitsWrong)

/-- 'zzlaws_pkg_schedule_b1.FnIsDigitsOfConcatenation': WHATEVER THE INPUT: true; the input reads as it did. -/
def fnIsDigitsOfConcatenationSpec : ChangeSpec := { name := "fnIsDigitsOfConcatenation", fn := fun _ => fun
  | [d1, d2] => { results := [.lit (.bool true)], args := [d1, d2] }
  | _ => none }
def fnIsDigitsOfConcatenationRow : OpenClaim := { program := "qxb6603166a", sum := "a2eda1c0fd5ea798d9903aab1dd257ea909199dfeb4a03e28ce5d5768c53af98", func := "example.com/rowclock/rowclock/zzlaws_pkg_schedule_b1.FnIsDigitsOfConcatenation", spec := "fnIsDigitsOfConcatenation", apart := false }
def FnIsDigitsOfConcatenationSaid : Prop := fnIsDigitsOfConcatenationRow.holds Try.pinned (OpenSpec.ofChange fnIsDigitsOfConcatenationSpec)

/-- ITS FALSE NEIGHBOUR: 'it returns false'. Refute it at one input. -/
def fnIsDigitsOfConcatenationWrong : ChangeSpec := { name := "fnIsDigitsOfConcatenation", fn := fun _ => fun
  | [d1, d2] => { results := [.lit (.bool false)], args := [d1, d2] }
  | _ => none }
def FnIsDigitsOfConcatenationWrongFalsely : Prop := fnIsDigitsOfConcatenationRow.holds Try.pinned (OpenSpec.ofChange fnIsDigitsOfConcatenationWrong)

end Rows
end Go.Proofs.Qxb6603166a
