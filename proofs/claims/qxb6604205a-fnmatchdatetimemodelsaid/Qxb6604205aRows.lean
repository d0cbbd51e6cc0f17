/-
  No cell of these rows narrows 'for every input' (looked for: loops, veiled, ifaces, maps, wideKeys, modest, calm, conditions, laid).
  DERIVED. THE GIVEN ROWS OF THIS SEAT. 3 by the template 'for every input the law returns true; each argument reads behind the call as it read before'; 0 by the template 'total and deterministic' (their statements: Qxb6604205aTotals.lean).
  GIVEN WITH THE SEED: the statements are not yours to turn. If you find one false, say at which input.
  Laid BY PROGRAM, IN A SANDBOX (cutbox-rows.mjs): the forced cells as the released guide's own fill.sh prints them over the translation 13e00764b39bc4b9… (all of the seat's roots in one cut). By AI agents, Wed Nov 11 2026. No macro, syntax, notation, axiom, sorry.
-/
import Derived.Test.Qxb6604205aChecked
import GoSem.Claim
import GoSem.ClaimJoined
import GoSem.ClaimMapViews
import Derived.JoinedTies
import Derived.KernelRfl
namespace Go.Proofs.Qxb6604205a
/- THE CELL 'sum', in the pinned program and in every row, IS THE sha256 OF THE DUMP (.gsa) THAT Qxb6604205aProg.lean LOADS. Nothing in Lean hashes anything: it is a label: what it is worth is what the hold of that sum in a sandbox is worth. -/
noncomputable def Try.pinned : Pinned := { name := "qxb6604205a", sum := "13e00764b39bc4b9b0e5e6a77a763db66ff11afc652d94b78e1ca8bca9b5f927", checked := Try.checked }
namespace Rows
def none {H : Type} : Left H := { results := [], args := [] }

/-- 'zzlaws_pkg_toml_b1.FnShortDecimalModel': WHATEVER THE INPUT: true; the input reads as it did. -/
def fnShortDecimalModelSpec : ChangeSpec := { name := "fnShortDecimalModel", fn := fun _ => fun
  | [d] => { results := [.lit (.bool true)], args := [d] }
  | _ => none }
def fnShortDecimalModelRow : OpenClaim := { program := "qxb6604205a", sum := "13e00764b39bc4b9b0e5e6a77a763db66ff11afc652d94b78e1ca8bca9b5f927", func := "example.com/nestlint/nestlint/zzlaws_pkg_toml_b1.FnShortDecimalModel", spec := "fnShortDecimalModel", apart := false }
def FnShortDecimalModelSaid : Prop := fnShortDecimalModelRow.holds Try.pinned (OpenSpec.ofChange fnShortDecimalModelSpec)

/-- ITS FALSE NEIGHBOUR: 'it returns false'. Refute it at one input. -/
def fnShortDecimalModelWrong : ChangeSpec := { name := "fnShortDecimalModel", fn := fun _ => fun
  | [d] => { results := [.lit (.bool false)], args := [d] }
  | _ => none }
def FnShortDecimalModelWrongFalsely : Prop := fnShortDecimalModelRow.holds Try.pinned (OpenSpec.ofChange fnShortDecimalModelWrong)

/-- 'zzlaws_pkg_toml_b1.FnPartialTimeModel': WHATEVER THE INPUT: true; the input reads as it did. -/
def fnPartialTimeModelSpec : ChangeSpec := { name := "fnPartialTimeModel", fn := fun _ => fun
  | [d1, d2] => { results := [.lit (.bool true)], args := [d1, d2] }
  | _ => none }
def fnPartialTimeModelRow : OpenClaim := { program := "qxb6604205a", sum := "13e00764b39bc4b9b0e5e6a77a763db66ff11afc652d94b78e1ca8bca9b5f927", func := "example.com/nestlint/nestlint/zzlaws_pkg_toml_b1.FnPartialTimeModel", spec := "fnPartialTimeModel", apart := false }
def FnPartialTimeModelSaid : Prop := fnPartialTimeModelRow.holds Try.pinned (OpenSpec.ofChange fnPartialTimeModelSpec)

/-- ITS FALSE NEIGHBOUR: 'it returns false'. Refute it at one input. -/
def fnPartialTimeModelWrong : ChangeSpec := { name := "fnPartialTimeModel", fn := fun _ => fun
  | [d1, d2] => { results := [.lit (.bool false)], args := [d1, d2] }
  | _ => none }
def FnPartialTimeModelWrongFalsely : Prop := fnPartialTimeModelRow.holds Try.pinned (OpenSpec.ofChange fnPartialTimeModelWrong)

/-- 'zzlaws_pkg_toml_b1.FnMatchDateTimeModel': WHATEVER THE INPUT: true; the input reads as it did. -/
def fnMatchDateTimeModelSpec : ChangeSpec := { name := "fnMatchDateTimeModel", fn := fun _ => fun
  | [d1, d2] => { results := [.lit (.bool true)], args := [d1, d2] }
  | _ => none }
def fnMatchDateTimeModelRow : OpenClaim := { program := "qxb6604205a", sum := "13e00764b39bc4b9b0e5e6a77a763db66ff11afc652d94b78e1ca8bca9b5f927", func := "example.com/nestlint/nestlint/zzlaws_pkg_toml_b1.FnMatchDateTimeModel", spec := "fnMatchDateTimeModel", apart := false }
def FnMatchDateTimeModelSaid : Prop := fnMatchDateTimeModelRow.holds Try.pinned (OpenSpec.ofChange fnMatchDateTimeModelSpec)

/-- ITS FALSE NEIGHBOUR: 'it returns false'. Refute it at one input. -/
def fnMatchDateTimeModelWrong : ChangeSpec := { name := "fnMatchDateTimeModel", fn := fun _ => fun
  | [d1, d2] => { results := [.lit (.bool false)], args := [d1, d2] }
  | _ => none }
def FnMatchDateTimeModelWrongFalsely : Prop := fnMatchDateTimeModelRow.holds Try.pinned (OpenSpec.ofChange fnMatchDateTimeModelWrong)

end Rows
end Go.Proofs.Qxb6604205a
