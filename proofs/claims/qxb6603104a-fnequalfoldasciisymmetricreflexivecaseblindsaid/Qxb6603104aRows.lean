/-
  No cell of these rows narrows 'for every input' (looked for: loops, veiled, ifaces, maps, wideKeys, modest, calm, conditions, laid).
  DERIVED. THE GIVEN ROWS OF THIS SEAT. 8 by the template 'for every input the law returns true; each argument reads behind the call as it read before'; 0 by the template 'total and deterministic' (their statements: Qxb6603104aTotals.lean).
  GIVEN WITH THE SEED: the statements are not yours to turn. If you find one false, say at which input.
  Laid BY PROGRAM, IN A SANDBOX (cutbox-rows.mjs): the forced cells as the released guide's own fill.sh prints them over the translation 79b0261f65d2860d… (all of the seat's roots in one cut). By AI agents, Wed Nov 11 2026. No macro, syntax, notation, axiom, sorry.
-/
import Derived.Test.Qxb6603104aChecked
import GoSem.Claim
import GoSem.ClaimJoined
import GoSem.ClaimMapViews
import Derived.JoinedTies
import Derived.KernelRfl
namespace Go.Proofs.Qxb6603104a
/- THE CELL 'sum', in the pinned program and in every row, IS THE sha256 OF THE DUMP (.gsa) THAT Qxb6603104aProg.lean LOADS. Nothing in Lean hashes anything: it is a label: what it is worth is what the hold of that sum in a sandbox is worth. -/
noncomputable def Try.pinned : Pinned := { name := "qxb6603104a", sum := "79b0261f65d2860dcdcc8b1fe15e387a817a5f43dd224534a4b1d7e8789b0a9f", checked := Try.checked }
namespace Rows
def none {H : Type} : Left H := { results := [], args := [] }

/-- 'zzlaws_pkg_dnsmsg_b1.FnLowerASCIIMatchesAlphabetTable': WHATEVER THE INPUT: true; the input reads as it did. -/
def fnLowerASCIIMatchesAlphabetTableSpec : ChangeSpec := { name := "fnLowerASCIIMatchesAlphabetTable", fn := fun _ => fun
  | [d] => { results := [.lit (.bool true)], args := [d] }
  | _ => none }
def fnLowerASCIIMatchesAlphabetTableRow : OpenClaim := { program := "qxb6603104a", sum := "79b0261f65d2860dcdcc8b1fe15e387a817a5f43dd224534a4b1d7e8789b0a9f", func := "example.com/sottovoce/sottovoce/zzlaws_pkg_dnsmsg_b1.FnLowerASCIIMatchesAlphabetTable", spec := "fnLowerASCIIMatchesAlphabetTable", apart := false }
def FnLowerASCIIMatchesAlphabetTableSaid : Prop := fnLowerASCIIMatchesAlphabetTableRow.holds Try.pinned (OpenSpec.ofChange fnLowerASCIIMatchesAlphabetTableSpec)

/-- ITS FALSE NEIGHBOUR: 'it returns false'. Refute it at one input. -/
def fnLowerASCIIMatchesAlphabetTableWrong : ChangeSpec := { name := "fnLowerASCIIMatchesAlphabetTable", fn := fun _ => fun
  | [d] => { results := [.lit (.bool false)], args := [d] }
  | _ => none }
def FnLowerASCIIMatchesAlphabetTableWrongFalsely : Prop := fnLowerASCIIMatchesAlphabetTableRow.holds Try.pinned (OpenSpec.ofChange fnLowerASCIIMatchesAlphabetTableWrong)

/-- 'zzlaws_pkg_dnsmsg_b1.FnLowerASCIIIdempotentLeavesNoCapital': WHATEVER THE INPUT: true; the input reads as it did. -/
def fnLowerASCIIIdempotentLeavesNoCapitalSpec : ChangeSpec := { name := "fnLowerASCIIIdempotentLeavesNoCapital", fn := fun _ => fun
  | [d] => { results := [.lit (.bool true)], args := [d] }
  | _ => none }
def fnLowerASCIIIdempotentLeavesNoCapitalRow : OpenClaim := { program := "qxb6603104a", sum := "79b0261f65d2860dcdcc8b1fe15e387a817a5f43dd224534a4b1d7e8789b0a9f", func := "example.com/sottovoce/sottovoce/zzlaws_pkg_dnsmsg_b1.FnLowerASCIIIdempotentLeavesNoCapital", spec := "fnLowerASCIIIdempotentLeavesNoCapital", apart := false }
def FnLowerASCIIIdempotentLeavesNoCapitalSaid : Prop := fnLowerASCIIIdempotentLeavesNoCapitalRow.holds Try.pinned (OpenSpec.ofChange fnLowerASCIIIdempotentLeavesNoCapitalSpec)

/-- ITS FALSE NEIGHBOUR: 'it returns false'. Refute it at one input. -/
def fnLowerASCIIIdempotentLeavesNoCapitalWrong : ChangeSpec := { name := "fnLowerASCIIIdempotentLeavesNoCapital", fn := fun _ => fun
  | [d] => { results := [.lit (.bool false)], args := [d] }
  | _ => none }
def FnLowerASCIIIdempotentLeavesNoCapitalWrongFalsely : Prop := fnLowerASCIIIdempotentLeavesNoCapitalRow.holds Try.pinned (OpenSpec.ofChange fnLowerASCIIIdempotentLeavesNoCapitalWrong)

/-- 'zzlaws_pkg_dnsmsg_b1.FnEqualFoldASCIIMatchesBitModel': WHATEVER THE INPUT: true; the input reads as it did. -/
def fnEqualFoldASCIIMatchesBitModelSpec : ChangeSpec := { name := "fnEqualFoldASCIIMatchesBitModel", fn := fun _ => fun
  | [d1, d2] => { results := [.lit (.bool true)], args := [d1, d2] }
  | _ => none }
def fnEqualFoldASCIIMatchesBitModelRow : OpenClaim := { program := "qxb6603104a", sum := "79b0261f65d2860dcdcc8b1fe15e387a817a5f43dd224534a4b1d7e8789b0a9f", func := "example.com/sottovoce/sottovoce/zzlaws_pkg_dnsmsg_b1.FnEqualFoldASCIIMatchesBitModel", spec := "fnEqualFoldASCIIMatchesBitModel", apart := false }
def FnEqualFoldASCIIMatchesBitModelSaid : Prop := fnEqualFoldASCIIMatchesBitModelRow.holds Try.pinned (OpenSpec.ofChange fnEqualFoldASCIIMatchesBitModelSpec)

/-- ITS FALSE NEIGHBOUR: 'it returns false'. Refute it at one input. -/
def fnEqualFoldASCIIMatchesBitModelWrong : ChangeSpec := { name := "fnEqualFoldASCIIMatchesBitModel", fn := fun _ => fun
  | [d1, d2] => { results := [.lit (.bool false)], args := [d1, d2] }
  | _ => none }
def FnEqualFoldASCIIMatchesBitModelWrongFalsely : Prop := fnEqualFoldASCIIMatchesBitModelRow.holds Try.pinned (OpenSpec.ofChange fnEqualFoldASCIIMatchesBitModelWrong)

/-- 'zzlaws_pkg_dnsmsg_b1.FnEqualFoldASCIISymmetricReflexiveCaseBlind': WHATEVER THE INPUT: true; the input reads as it did. -/
def fnEqualFoldASCIISymmetricReflexiveCaseBlindSpec : ChangeSpec := { name := "fnEqualFoldASCIISymmetricReflexiveCaseBlind", fn := fun _ => fun
  | [d1, d2] => { results := [.lit (.bool true)], args := [d1, d2] }
  | _ => none }
def fnEqualFoldASCIISymmetricReflexiveCaseBlindRow : OpenClaim := { program := "qxb6603104a", sum := "79b0261f65d2860dcdcc8b1fe15e387a817a5f43dd224534a4b1d7e8789b0a9f", func := "example.com/sottovoce/sottovoce/zzlaws_pkg_dnsmsg_b1.FnEqualFoldASCIISymmetricReflexiveCaseBlind", spec := "fnEqualFoldASCIISymmetricReflexiveCaseBlind", apart := false }
def FnEqualFoldASCIISymmetricReflexiveCaseBlindSaid : Prop := fnEqualFoldASCIISymmetricReflexiveCaseBlindRow.holds Try.pinned (OpenSpec.ofChange fnEqualFoldASCIISymmetricReflexiveCaseBlindSpec)

/-- ITS FALSE NEIGHBOUR: 'it returns false'. Refute it at one input. -/
def fnEqualFoldASCIISymmetricReflexiveCaseBlindWrong : ChangeSpec := { name := "fnEqualFoldASCIISymmetricReflexiveCaseBlind", fn := fun _ => fun
  | [d1, d2] => { results := [.lit (.bool false)], args := [d1, d2] }
  | _ => none }
def FnEqualFoldASCIISymmetricReflexiveCaseBlindWrongFalsely : Prop := fnEqualFoldASCIISymmetricReflexiveCaseBlindRow.holds Try.pinned (OpenSpec.ofChange fnEqualFoldASCIISymmetricReflexiveCaseBlindWrong)

/-- 'zzlaws_pkg_dnsmsg_b1.FnEqualFoldASCIITransitive': WHATEVER THE INPUT: true; the input reads as it did. -/
def fnEqualFoldASCIITransitiveSpec : ChangeSpec := { name := "fnEqualFoldASCIITransitive", fn := fun _ => fun
  | [d1, d2, d3] => { results := [.lit (.bool true)], args := [d1, d2, d3] }
  | _ => none }
def fnEqualFoldASCIITransitiveRow : OpenClaim := { program := "qxb6603104a", sum := "79b0261f65d2860dcdcc8b1fe15e387a817a5f43dd224534a4b1d7e8789b0a9f", func := "example.com/sottovoce/sottovoce/zzlaws_pkg_dnsmsg_b1.FnEqualFoldASCIITransitive", spec := "fnEqualFoldASCIITransitive", apart := false }
def FnEqualFoldASCIITransitiveSaid : Prop := fnEqualFoldASCIITransitiveRow.holds Try.pinned (OpenSpec.ofChange fnEqualFoldASCIITransitiveSpec)

/-- ITS FALSE NEIGHBOUR: 'it returns false'. Refute it at one input. -/
def fnEqualFoldASCIITransitiveWrong : ChangeSpec := { name := "fnEqualFoldASCIITransitive", fn := fun _ => fun
  | [d1, d2, d3] => { results := [.lit (.bool false)], args := [d1, d2, d3] }
  | _ => none }
def FnEqualFoldASCIITransitiveWrongFalsely : Prop := fnEqualFoldASCIITransitiveRow.holds Try.pinned (OpenSpec.ofChange fnEqualFoldASCIITransitiveWrong)

/-- 'zzlaws_pkg_dnsmsg_b1.FnSkipNameMatchesBackwardTable': WHATEVER THE INPUT: true; the input reads as it did. -/
def fnSkipNameMatchesBackwardTableSpec : ChangeSpec := { name := "fnSkipNameMatchesBackwardTable", fn := fun _ => fun
  | [d1, d2] => { results := [.lit (.bool true)], args := [d1, d2] }
  | _ => none }
def fnSkipNameMatchesBackwardTableRow : OpenClaim := { program := "qxb6603104a", sum := "79b0261f65d2860dcdcc8b1fe15e387a817a5f43dd224534a4b1d7e8789b0a9f", func := "example.com/sottovoce/sottovoce/zzlaws_pkg_dnsmsg_b1.FnSkipNameMatchesBackwardTable", spec := "fnSkipNameMatchesBackwardTable", apart := false }
def FnSkipNameMatchesBackwardTableSaid : Prop := fnSkipNameMatchesBackwardTableRow.holds Try.pinned (OpenSpec.ofChange fnSkipNameMatchesBackwardTableSpec)

/-- ITS FALSE NEIGHBOUR: 'it returns false'. Refute it at one input. -/
def fnSkipNameMatchesBackwardTableWrong : ChangeSpec := { name := "fnSkipNameMatchesBackwardTable", fn := fun _ => fun
  | [d1, d2] => { results := [.lit (.bool false)], args := [d1, d2] }
  | _ => none }
def FnSkipNameMatchesBackwardTableWrongFalsely : Prop := fnSkipNameMatchesBackwardTableRow.holds Try.pinned (OpenSpec.ofChange fnSkipNameMatchesBackwardTableWrong)

/-- 'zzlaws_pkg_dnsmsg_b1.FnSkipNameShiftsWithPrefix': WHATEVER THE INPUT: true; the input reads as it did. -/
def fnSkipNameShiftsWithPrefixSpec : ChangeSpec := { name := "fnSkipNameShiftsWithPrefix", fn := fun _ => fun
  | [d1, d2, d3] => { results := [.lit (.bool true)], args := [d1, d2, d3] }
  | _ => none }
def fnSkipNameShiftsWithPrefixRow : OpenClaim := { program := "qxb6603104a", sum := "79b0261f65d2860dcdcc8b1fe15e387a817a5f43dd224534a4b1d7e8789b0a9f", func := "example.com/sottovoce/sottovoce/zzlaws_pkg_dnsmsg_b1.FnSkipNameShiftsWithPrefix", spec := "fnSkipNameShiftsWithPrefix", apart := false }
def FnSkipNameShiftsWithPrefixSaid : Prop := fnSkipNameShiftsWithPrefixRow.holds Try.pinned (OpenSpec.ofChange fnSkipNameShiftsWithPrefixSpec)

/-- ITS FALSE NEIGHBOUR: 'it returns false'. Refute it at one input. -/
def fnSkipNameShiftsWithPrefixWrong : ChangeSpec := { name := "fnSkipNameShiftsWithPrefix", fn := fun _ => fun
  | [d1, d2, d3] => { results := [.lit (.bool false)], args := [d1, d2, d3] }
  | _ => none }
def FnSkipNameShiftsWithPrefixWrongFalsely : Prop := fnSkipNameShiftsWithPrefixRow.holds Try.pinned (OpenSpec.ofChange fnSkipNameShiftsWithPrefixWrong)

/-- 'zzlaws_pkg_dnsmsg_b1.FnSkipNameEndsWithinTheNameAlone': WHATEVER THE INPUT: true; the input reads as it did. -/
def fnSkipNameEndsWithinTheNameAloneSpec : ChangeSpec := { name := "fnSkipNameEndsWithinTheNameAlone", fn := fun _ => fun
  | [d1, d2, d3] => { results := [.lit (.bool true)], args := [d1, d2, d3] }
  | _ => none }
def fnSkipNameEndsWithinTheNameAloneRow : OpenClaim := { program := "qxb6603104a", sum := "79b0261f65d2860dcdcc8b1fe15e387a817a5f43dd224534a4b1d7e8789b0a9f", func := "example.com/sottovoce/sottovoce/zzlaws_pkg_dnsmsg_b1.FnSkipNameEndsWithinTheNameAlone", spec := "fnSkipNameEndsWithinTheNameAlone", apart := false }
def FnSkipNameEndsWithinTheNameAloneSaid : Prop := fnSkipNameEndsWithinTheNameAloneRow.holds Try.pinned (OpenSpec.ofChange fnSkipNameEndsWithinTheNameAloneSpec)

/-- ITS FALSE NEIGHBOUR: 'it returns false'. Refute it at one input. -/
def fnSkipNameEndsWithinTheNameAloneWrong : ChangeSpec := { name := "fnSkipNameEndsWithinTheNameAlone", fn := fun _ => fun
  | [d1, d2, d3] => { results := [.lit (.bool false)], args := [d1, d2, d3] }
  | _ => none }
def FnSkipNameEndsWithinTheNameAloneWrongFalsely : Prop := fnSkipNameEndsWithinTheNameAloneRow.holds Try.pinned (OpenSpec.ofChange fnSkipNameEndsWithinTheNameAloneWrong)

end Rows
end Go.Proofs.Qxb6603104a
