/-
  No cell of these rows narrows 'for every input' (looked for: loops, veiled, ifaces, maps, wideKeys, modest, calm, conditions, laid).
  DERIVED. THE GIVEN ROWS OF THIS SEAT. 9 by the template 'for every input the law returns true; each argument reads behind the call as it read before'; 0 by the template 'total and deterministic' (their statements: Qxb6601933aTotals.lean).
  GIVEN WITH THE SEED: the statements are not yours to turn. If you find one false, say at which input.
  Laid BY PROGRAM, IN A SANDBOX (cutbox-rows.mjs): the forced cells as the released guide's own fill.sh prints them over the translation e11a9186952707fe… (all of the seat's roots in one cut). By AI agents, Wed Nov 11 2026. No macro, syntax, notation, axiom, sorry.
-/
import Derived.Test.Qxb6601933aChecked
import GoSem.Claim
import GoSem.ClaimJoined
import GoSem.ClaimMapViews
import Derived.JoinedTies
import Derived.KernelRfl
namespace Go.Proofs.Qxb6601933a
/- THE CELL 'sum', in the pinned program and in every row, IS THE sha256 OF THE DUMP (.gsa) THAT Qxb6601933aProg.lean LOADS. Nothing in Lean hashes anything: it is a label: what it is worth is what the hold of that sum in a sandbox is worth. -/
noncomputable def Try.pinned : Pinned := { name := "qxb6601933a", sum := "e11a9186952707fe33ccd62f42f196be50541bd2cf4c85460898edd45832774f", checked := Try.checked }
namespace Rows
def none {H : Type} : Left H := { results := [], args := [] }

/-- 'zzlaws_httphead_b1.FnReadLengthMatchesPositionalValue': WHATEVER THE INPUT: true; the input reads as it did. -/
def fnReadLengthMatchesPositionalValueSpec : ChangeSpec := { name := "fnReadLengthMatchesPositionalValue", fn := fun _ => fun
  | [d] => { results := [.lit (.bool true)], args := [d] }
  | _ => none }
def fnReadLengthMatchesPositionalValueRow : OpenClaim := { program := "qxb6601933a", sum := "e11a9186952707fe33ccd62f42f196be50541bd2cf4c85460898edd45832774f", func := "example.com/ladle/ladle/zzlaws_httphead_b1.FnReadLengthMatchesPositionalValue", spec := "fnReadLengthMatchesPositionalValue", apart := false }
def FnReadLengthMatchesPositionalValueSaid : Prop := fnReadLengthMatchesPositionalValueRow.holds Try.pinned (OpenSpec.ofChange fnReadLengthMatchesPositionalValueSpec)

/-- ITS FALSE NEIGHBOUR: 'it returns false'. Refute it at one input. -/
def fnReadLengthMatchesPositionalValueWrong : ChangeSpec := { name := "fnReadLengthMatchesPositionalValue", fn := fun _ => fun
  | [d] => { results := [.lit (.bool false)], args := [d] }
  | _ => none }
def FnReadLengthMatchesPositionalValueWrongFalsely : Prop := fnReadLengthMatchesPositionalValueRow.holds Try.pinned (OpenSpec.ofChange fnReadLengthMatchesPositionalValueWrong)

/-- 'zzlaws_httphead_b1.FnReadLengthReadsBackItsDecimal': WHATEVER THE INPUT: true; the input reads as it did. -/
def fnReadLengthReadsBackItsDecimalSpec : ChangeSpec := { name := "fnReadLengthReadsBackItsDecimal", fn := fun _ => fun
  | [d] => { results := [.lit (.bool true)], args := [d] }
  | _ => none }
def fnReadLengthReadsBackItsDecimalRow : OpenClaim := { program := "qxb6601933a", sum := "e11a9186952707fe33ccd62f42f196be50541bd2cf4c85460898edd45832774f", func := "example.com/ladle/ladle/zzlaws_httphead_b1.FnReadLengthReadsBackItsDecimal", spec := "fnReadLengthReadsBackItsDecimal", apart := false }
def FnReadLengthReadsBackItsDecimalSaid : Prop := fnReadLengthReadsBackItsDecimalRow.holds Try.pinned (OpenSpec.ofChange fnReadLengthReadsBackItsDecimalSpec)

/-- ITS FALSE NEIGHBOUR: 'it returns false'. Refute it at one input. -/
def fnReadLengthReadsBackItsDecimalWrong : ChangeSpec := { name := "fnReadLengthReadsBackItsDecimal", fn := fun _ => fun
  | [d] => { results := [.lit (.bool false)], args := [d] }
  | _ => none }
def FnReadLengthReadsBackItsDecimalWrongFalsely : Prop := fnReadLengthReadsBackItsDecimalRow.holds Try.pinned (OpenSpec.ofChange fnReadLengthReadsBackItsDecimalWrong)

/-- 'zzlaws_httphead_b1.FnReadLengthIgnoresALeadingZero': WHATEVER THE INPUT: true; the input reads as it did. -/
def fnReadLengthIgnoresALeadingZeroSpec : ChangeSpec := { name := "fnReadLengthIgnoresALeadingZero", fn := fun _ => fun
  | [d] => { results := [.lit (.bool true)], args := [d] }
  | _ => none }
def fnReadLengthIgnoresALeadingZeroRow : OpenClaim := { program := "qxb6601933a", sum := "e11a9186952707fe33ccd62f42f196be50541bd2cf4c85460898edd45832774f", func := "example.com/ladle/ladle/zzlaws_httphead_b1.FnReadLengthIgnoresALeadingZero", spec := "fnReadLengthIgnoresALeadingZero", apart := false }
def FnReadLengthIgnoresALeadingZeroSaid : Prop := fnReadLengthIgnoresALeadingZeroRow.holds Try.pinned (OpenSpec.ofChange fnReadLengthIgnoresALeadingZeroSpec)

/-- ITS FALSE NEIGHBOUR: 'it returns false'. Refute it at one input. -/
def fnReadLengthIgnoresALeadingZeroWrong : ChangeSpec := { name := "fnReadLengthIgnoresALeadingZero", fn := fun _ => fun
  | [d] => { results := [.lit (.bool false)], args := [d] }
  | _ => none }
def FnReadLengthIgnoresALeadingZeroWrongFalsely : Prop := fnReadLengthIgnoresALeadingZeroRow.holds Try.pinned (OpenSpec.ofChange fnReadLengthIgnoresALeadingZeroWrong)

/-- 'zzlaws_httphead_b1.FnEqualFoldMatchesCaseTable': WHATEVER THE INPUT: true; the input reads as it did. -/
def fnEqualFoldMatchesCaseTableSpec : ChangeSpec := { name := "fnEqualFoldMatchesCaseTable", fn := fun _ => fun
  | [d1, d2] => { results := [.lit (.bool true)], args := [d1, d2] }
  | _ => none }
def fnEqualFoldMatchesCaseTableRow : OpenClaim := { program := "qxb6601933a", sum := "e11a9186952707fe33ccd62f42f196be50541bd2cf4c85460898edd45832774f", func := "example.com/ladle/ladle/zzlaws_httphead_b1.FnEqualFoldMatchesCaseTable", spec := "fnEqualFoldMatchesCaseTable", apart := false }
def FnEqualFoldMatchesCaseTableSaid : Prop := fnEqualFoldMatchesCaseTableRow.holds Try.pinned (OpenSpec.ofChange fnEqualFoldMatchesCaseTableSpec)

/-- ITS FALSE NEIGHBOUR: 'it returns false'. Refute it at one input. -/
def fnEqualFoldMatchesCaseTableWrong : ChangeSpec := { name := "fnEqualFoldMatchesCaseTable", fn := fun _ => fun
  | [d1, d2] => { results := [.lit (.bool false)], args := [d1, d2] }
  | _ => none }
def FnEqualFoldMatchesCaseTableWrongFalsely : Prop := fnEqualFoldMatchesCaseTableRow.holds Try.pinned (OpenSpec.ofChange fnEqualFoldMatchesCaseTableWrong)

/-- 'zzlaws_httphead_b1.FnEqualFoldIgnoresTheCaseOfB': WHATEVER THE INPUT: true; the input reads as it did. -/
def fnEqualFoldIgnoresTheCaseOfBSpec : ChangeSpec := { name := "fnEqualFoldIgnoresTheCaseOfB", fn := fun _ => fun
  | [d1, d2] => { results := [.lit (.bool true)], args := [d1, d2] }
  | _ => none }
def fnEqualFoldIgnoresTheCaseOfBRow : OpenClaim := { program := "qxb6601933a", sum := "e11a9186952707fe33ccd62f42f196be50541bd2cf4c85460898edd45832774f", func := "example.com/ladle/ladle/zzlaws_httphead_b1.FnEqualFoldIgnoresTheCaseOfB", spec := "fnEqualFoldIgnoresTheCaseOfB", apart := false }
def FnEqualFoldIgnoresTheCaseOfBSaid : Prop := fnEqualFoldIgnoresTheCaseOfBRow.holds Try.pinned (OpenSpec.ofChange fnEqualFoldIgnoresTheCaseOfBSpec)

/-- ITS FALSE NEIGHBOUR: 'it returns false'. Refute it at one input. -/
def fnEqualFoldIgnoresTheCaseOfBWrong : ChangeSpec := { name := "fnEqualFoldIgnoresTheCaseOfB", fn := fun _ => fun
  | [d1, d2] => { results := [.lit (.bool false)], args := [d1, d2] }
  | _ => none }
def FnEqualFoldIgnoresTheCaseOfBWrongFalsely : Prop := fnEqualFoldIgnoresTheCaseOfBRow.holds Try.pinned (OpenSpec.ofChange fnEqualFoldIgnoresTheCaseOfBWrong)

/-- 'zzlaws_httphead_b1.FnEqualFoldRefusesUpperCaseInLower': WHATEVER THE INPUT: true; the input reads as it did. -/
def fnEqualFoldRefusesUpperCaseInLowerSpec : ChangeSpec := { name := "fnEqualFoldRefusesUpperCaseInLower", fn := fun _ => fun
  | [d1, d2] => { results := [.lit (.bool true)], args := [d1, d2] }
  | _ => none }
def fnEqualFoldRefusesUpperCaseInLowerRow : OpenClaim := { program := "qxb6601933a", sum := "e11a9186952707fe33ccd62f42f196be50541bd2cf4c85460898edd45832774f", func := "example.com/ladle/ladle/zzlaws_httphead_b1.FnEqualFoldRefusesUpperCaseInLower", spec := "fnEqualFoldRefusesUpperCaseInLower", apart := false }
def FnEqualFoldRefusesUpperCaseInLowerSaid : Prop := fnEqualFoldRefusesUpperCaseInLowerRow.holds Try.pinned (OpenSpec.ofChange fnEqualFoldRefusesUpperCaseInLowerSpec)

/-- ITS FALSE NEIGHBOUR: 'it returns false'. Refute it at one input. -/
def fnEqualFoldRefusesUpperCaseInLowerWrong : ChangeSpec := { name := "fnEqualFoldRefusesUpperCaseInLower", fn := fun _ => fun
  | [d1, d2] => { results := [.lit (.bool false)], args := [d1, d2] }
  | _ => none }
def FnEqualFoldRefusesUpperCaseInLowerWrongFalsely : Prop := fnEqualFoldRefusesUpperCaseInLowerRow.holds Try.pinned (OpenSpec.ofChange fnEqualFoldRefusesUpperCaseInLowerWrong)

/-- 'zzlaws_httphead_b1.FnNewCharsIsAlnumOrListed': WHATEVER THE INPUT: true; the input reads as it did. -/
def fnNewCharsIsAlnumOrListedSpec : ChangeSpec := { name := "fnNewCharsIsAlnumOrListed", fn := fun _ => fun
  | [d] => { results := [.lit (.bool true)], args := [d] }
  | _ => none }
def fnNewCharsIsAlnumOrListedRow : OpenClaim := { program := "qxb6601933a", sum := "e11a9186952707fe33ccd62f42f196be50541bd2cf4c85460898edd45832774f", func := "example.com/ladle/ladle/zzlaws_httphead_b1.FnNewCharsIsAlnumOrListed", spec := "fnNewCharsIsAlnumOrListed", apart := false }
def FnNewCharsIsAlnumOrListedSaid : Prop := fnNewCharsIsAlnumOrListedRow.holds Try.pinned (OpenSpec.ofChange fnNewCharsIsAlnumOrListedSpec)

/-- ITS FALSE NEIGHBOUR: 'it returns false'. Refute it at one input. -/
def fnNewCharsIsAlnumOrListedWrong : ChangeSpec := { name := "fnNewCharsIsAlnumOrListed", fn := fun _ => fun
  | [d] => { results := [.lit (.bool false)], args := [d] }
  | _ => none }
def FnNewCharsIsAlnumOrListedWrongFalsely : Prop := fnNewCharsIsAlnumOrListedRow.holds Try.pinned (OpenSpec.ofChange fnNewCharsIsAlnumOrListedWrong)

/-- 'zzlaws_httphead_b1.FnNewCharsOfAJoinIsTheUnion': WHATEVER THE INPUT: true; the input reads as it did. -/
def fnNewCharsOfAJoinIsTheUnionSpec : ChangeSpec := { name := "fnNewCharsOfAJoinIsTheUnion", fn := fun _ => fun
  | [d1, d2] => { results := [.lit (.bool true)], args := [d1, d2] }
  | _ => none }
def fnNewCharsOfAJoinIsTheUnionRow : OpenClaim := { program := "qxb6601933a", sum := "e11a9186952707fe33ccd62f42f196be50541bd2cf4c85460898edd45832774f", func := "example.com/ladle/ladle/zzlaws_httphead_b1.FnNewCharsOfAJoinIsTheUnion", spec := "fnNewCharsOfAJoinIsTheUnion", apart := false }
def FnNewCharsOfAJoinIsTheUnionSaid : Prop := fnNewCharsOfAJoinIsTheUnionRow.holds Try.pinned (OpenSpec.ofChange fnNewCharsOfAJoinIsTheUnionSpec)

/-- ITS FALSE NEIGHBOUR: 'it returns false'. Refute it at one input. -/
def fnNewCharsOfAJoinIsTheUnionWrong : ChangeSpec := { name := "fnNewCharsOfAJoinIsTheUnion", fn := fun _ => fun
  | [d1, d2] => { results := [.lit (.bool false)], args := [d1, d2] }
  | _ => none }
def FnNewCharsOfAJoinIsTheUnionWrongFalsely : Prop := fnNewCharsOfAJoinIsTheUnionRow.holds Try.pinned (OpenSpec.ofChange fnNewCharsOfAJoinIsTheUnionWrong)

/-- 'zzlaws_httphead_b1.FnNewCharsRebuiltFromItsMembers': WHATEVER THE INPUT: true; the input reads as it did. -/
def fnNewCharsRebuiltFromItsMembersSpec : ChangeSpec := { name := "fnNewCharsRebuiltFromItsMembers", fn := fun _ => fun
  | [d] => { results := [.lit (.bool true)], args := [d] }
  | _ => none }
def fnNewCharsRebuiltFromItsMembersRow : OpenClaim := { program := "qxb6601933a", sum := "e11a9186952707fe33ccd62f42f196be50541bd2cf4c85460898edd45832774f", func := "example.com/ladle/ladle/zzlaws_httphead_b1.FnNewCharsRebuiltFromItsMembers", spec := "fnNewCharsRebuiltFromItsMembers", apart := false }
def FnNewCharsRebuiltFromItsMembersSaid : Prop := fnNewCharsRebuiltFromItsMembersRow.holds Try.pinned (OpenSpec.ofChange fnNewCharsRebuiltFromItsMembersSpec)

/-- ITS FALSE NEIGHBOUR: 'it returns false'. Refute it at one input. -/
def fnNewCharsRebuiltFromItsMembersWrong : ChangeSpec := { name := "fnNewCharsRebuiltFromItsMembers", fn := fun _ => fun
  | [d] => { results := [.lit (.bool false)], args := [d] }
  | _ => none }
def FnNewCharsRebuiltFromItsMembersWrongFalsely : Prop := fnNewCharsRebuiltFromItsMembersRow.holds Try.pinned (OpenSpec.ofChange fnNewCharsRebuiltFromItsMembersWrong)

end Rows
end Go.Proofs.Qxb6601933a
