/-
  No cell of these rows narrows 'for every input' (looked for: loops, veiled, ifaces, maps, wideKeys, modest, calm, conditions, laid).
  DERIVED. THE GIVEN ROWS OF THIS SEAT. 4 by the template 'for every input the law returns true; each argument reads behind the call as it read before'; 0 by the template 'total and deterministic' (their statements: Qxb6603188aTotals.lean).
  GIVEN WITH THE SEED: the statements are not yours to turn. If you find one false, say at which input.
  Laid BY PROGRAM, IN A SANDBOX (cutbox-rows.mjs): the forced cells as the released guide's own fill.sh prints them over the translation 8677b87fe3489e64… (all of the seat's roots in one cut). By AI agents, Wed Nov 11 2026. No macro, syntax, notation, axiom, sorry.
-/
import Derived.Test.Qxb6603188aChecked
import GoSem.Claim
import GoSem.ClaimJoined
import GoSem.ClaimMapViews
import Derived.JoinedTies
import Derived.KernelRfl
namespace Go.Proofs.Qxb6603188a
/- THE CELL 'sum', in the pinned program and in every row, IS THE sha256 OF THE DUMP (.gsa) THAT Qxb6603188aProg.lean LOADS. Nothing in Lean hashes anything: it is a label: what it is worth is what the hold of that sum in a sandbox is worth. -/
noncomputable def Try.pinned : Pinned := { name := "qxb6603188a", sum := "8677b87fe3489e6447610d152e5bc24f1c34b5f12e2e648da8314d7adf9f66b4", checked := Try.checked }
namespace Rows
def none {H : Type} : Left H := { results := [], args := [] }

/-- 'zzlaws_pkg_descriptor_b1.FnJSONTextNextSpec': WHATEVER THE INPUT: true; the input reads as it did. -/
def fnJSONTextNextSpecSpec : ChangeSpec := { name := "fnJSONTextNextSpec", fn := fun _ => fun
  | [d1, d2] => { results := [.lit (.bool true)], args := [d1, d2] }
  | _ => none }
def fnJSONTextNextSpecRow : OpenClaim := { program := "qxb6603188a", sum := "8677b87fe3489e6447610d152e5bc24f1c34b5f12e2e648da8314d7adf9f66b4", func := "example.com/sealwright/sealwright/zzlaws_pkg_descriptor_b1.FnJSONTextNextSpec", spec := "fnJSONTextNextSpec", apart := false }
def FnJSONTextNextSpecSaid : Prop := fnJSONTextNextSpecRow.holds Try.pinned (OpenSpec.ofChange fnJSONTextNextSpecSpec)

/-- ITS FALSE NEIGHBOUR: 'it returns false'. Refute it at one input. -/
def fnJSONTextNextSpecWrong : ChangeSpec := { name := "fnJSONTextNextSpec", fn := fun _ => fun
  | [d1, d2] => { results := [.lit (.bool false)], args := [d1, d2] }
  | _ => none }
def FnJSONTextNextSpecWrongFalsely : Prop := fnJSONTextNextSpecRow.holds Try.pinned (OpenSpec.ofChange fnJSONTextNextSpecWrong)

/-- 'zzlaws_pkg_descriptor_b1.FnJSONTextNextSameLanding': WHATEVER THE INPUT: true; the input reads as it did. -/
def fnJSONTextNextSameLandingSpec : ChangeSpec := { name := "fnJSONTextNextSameLanding", fn := fun _ => fun
  | [d1, d2, d3] => { results := [.lit (.bool true)], args := [d1, d2, d3] }
  | _ => none }
def fnJSONTextNextSameLandingRow : OpenClaim := { program := "qxb6603188a", sum := "8677b87fe3489e6447610d152e5bc24f1c34b5f12e2e648da8314d7adf9f66b4", func := "example.com/sealwright/sealwright/zzlaws_pkg_descriptor_b1.FnJSONTextNextSameLanding", spec := "fnJSONTextNextSameLanding", apart := false }
def FnJSONTextNextSameLandingSaid : Prop := fnJSONTextNextSameLandingRow.holds Try.pinned (OpenSpec.ofChange fnJSONTextNextSameLandingSpec)

/-- ITS FALSE NEIGHBOUR: 'it returns false'. Refute it at one input. -/
def fnJSONTextNextSameLandingWrong : ChangeSpec := { name := "fnJSONTextNextSameLanding", fn := fun _ => fun
  | [d1, d2, d3] => { results := [.lit (.bool false)], args := [d1, d2, d3] }
  | _ => none }
def FnJSONTextNextSameLandingWrongFalsely : Prop := fnJSONTextNextSameLandingRow.holds Try.pinned (OpenSpec.ofChange fnJSONTextNextSameLandingWrong)

/-- 'zzlaws_pkg_descriptor_b1.FnJSONTextNextMonotone': WHATEVER THE INPUT: true; the input reads as it did. -/
def fnJSONTextNextMonotoneSpec : ChangeSpec := { name := "fnJSONTextNextMonotone", fn := fun _ => fun
  | [d1, d2, d3] => { results := [.lit (.bool true)], args := [d1, d2, d3] }
  | _ => none }
def fnJSONTextNextMonotoneRow : OpenClaim := { program := "qxb6603188a", sum := "8677b87fe3489e6447610d152e5bc24f1c34b5f12e2e648da8314d7adf9f66b4", func := "example.com/sealwright/sealwright/zzlaws_pkg_descriptor_b1.FnJSONTextNextMonotone", spec := "fnJSONTextNextMonotone", apart := false }
def FnJSONTextNextMonotoneSaid : Prop := fnJSONTextNextMonotoneRow.holds Try.pinned (OpenSpec.ofChange fnJSONTextNextMonotoneSpec)

/-- ITS FALSE NEIGHBOUR: 'it returns false'. Refute it at one input. -/
def fnJSONTextNextMonotoneWrong : ChangeSpec := { name := "fnJSONTextNextMonotone", fn := fun _ => fun
  | [d1, d2, d3] => { results := [.lit (.bool false)], args := [d1, d2, d3] }
  | _ => none }
def FnJSONTextNextMonotoneWrongFalsely : Prop := fnJSONTextNextMonotoneRow.holds Try.pinned (OpenSpec.ofChange fnJSONTextNextMonotoneWrong)

/-- 'zzlaws_pkg_descriptor_b1.FnNewMemberReadBack': WHATEVER THE INPUT: true; the input reads as it did. -/
def fnNewMemberReadBackSpec : ChangeSpec := { name := "fnNewMemberReadBack", fn := fun _ => fun
  | [d1, d2, d3, d4, d5, d6, d7] => { results := [.lit (.bool true)], args := [d1, d2, d3, d4, d5, d6, d7] }
  | _ => none }
def fnNewMemberReadBackRow : OpenClaim := { program := "qxb6603188a", sum := "8677b87fe3489e6447610d152e5bc24f1c34b5f12e2e648da8314d7adf9f66b4", func := "example.com/sealwright/sealwright/zzlaws_pkg_descriptor_b1.FnNewMemberReadBack", spec := "fnNewMemberReadBack", apart := false }
def FnNewMemberReadBackSaid : Prop := fnNewMemberReadBackRow.holds Try.pinned (OpenSpec.ofChange fnNewMemberReadBackSpec)

/-- ITS FALSE NEIGHBOUR: 'it returns false'. Refute it at one input. -/
def fnNewMemberReadBackWrong : ChangeSpec := { name := "fnNewMemberReadBack", fn := fun _ => fun
  | [d1, d2, d3, d4, d5, d6, d7] => { results := [.lit (.bool false)], args := [d1, d2, d3, d4, d5, d6, d7] }
  | _ => none }
def FnNewMemberReadBackWrongFalsely : Prop := fnNewMemberReadBackRow.holds Try.pinned (OpenSpec.ofChange fnNewMemberReadBackWrong)

end Rows
end Go.Proofs.Qxb6603188a
