/-
  No cell of these rows narrows 'for every input' (looked for: loops, veiled, ifaces, maps, wideKeys, modest, calm, conditions, laid).
  DERIVED. THE GIVEN ROWS OF THIS SEAT. 3 by the template 'for every input the law returns true; each argument reads behind the call as it read before'; 0 by the template 'total and deterministic' (their statements: Qxb6612285aTotals.lean).
  GIVEN WITH THE SEED: the statements are not yours to turn. If you find one false, say at which input.
  Laid BY PROGRAM, IN A SANDBOX (cutbox-rows.mjs): the forced cells as the released guide's own fill.sh prints them over the translation 302948f56ee20e07… (all of the seat's roots in one cut). By AI agents, Wed Nov 11 2026. No macro, syntax, notation, axiom, sorry.
-/
import Derived.Test.Qxb6612285aChecked
import GoSem.Claim
import GoSem.ClaimJoined
import GoSem.ClaimMapViews
import Derived.JoinedTies
import Derived.KernelRfl
namespace Go.Proofs.Qxb6612285a
/- THE CELL 'sum', in the pinned program and in every row, IS THE sha256 OF THE DUMP (.gsa) THAT Qxb6612285aProg.lean LOADS. Nothing in Lean hashes anything: it is a label: what it is worth is what the hold of that sum in a sandbox is worth. -/
noncomputable def Try.pinned : Pinned := { name := "qxb6612285a", sum := "302948f56ee20e07666ff68dbca24661f522535d0a696801c340fecaaaa5456f", checked := Try.checked }
namespace Rows
def none {H : Type} : Left H := { results := [], args := [] }

/-- 'zzlaws_pkg_figure_b1.FnDecimalOfNewIsCoefficientTimesPower': WHATEVER THE INPUT: true; the input reads as it did. -/
def fnDecimalOfNewIsCoefficientTimesPowerSpec : ChangeSpec := { name := "fnDecimalOfNewIsCoefficientTimesPower", fn := fun _ => fun
  | [d1, d2] => { results := [.lit (.bool true)], args := [d1, d2] }
  | _ => none }
def fnDecimalOfNewIsCoefficientTimesPowerRow : OpenClaim := { program := "qxb6612285a", sum := "302948f56ee20e07666ff68dbca24661f522535d0a696801c340fecaaaa5456f", func := "example.com/tuoguan/tuoguan/zzlaws_pkg_figure_b1.FnDecimalOfNewIsCoefficientTimesPower", spec := "fnDecimalOfNewIsCoefficientTimesPower", apart := false }
def FnDecimalOfNewIsCoefficientTimesPowerSaid : Prop := fnDecimalOfNewIsCoefficientTimesPowerRow.holds Try.pinned (OpenSpec.ofChange fnDecimalOfNewIsCoefficientTimesPowerSpec)

/-- ITS FALSE NEIGHBOUR: 'it returns false'. Refute it at one input. -/
def fnDecimalOfNewIsCoefficientTimesPowerWrong : ChangeSpec := { name := "fnDecimalOfNewIsCoefficientTimesPower", fn := fun _ => fun
  | [d1, d2] => { results := [.lit (.bool false)], args := [d1, d2] }
  | _ => none }
def FnDecimalOfNewIsCoefficientTimesPowerWrongFalsely : Prop := fnDecimalOfNewIsCoefficientTimesPowerRow.holds Try.pinned (OpenSpec.ofChange fnDecimalOfNewIsCoefficientTimesPowerWrong)

/-- 'zzlaws_pkg_figure_b1.FnDecimalOfOfGivesBackItsDecimal': WHATEVER THE INPUT: true; the input reads as it did. -/
def fnDecimalOfOfGivesBackItsDecimalSpec : ChangeSpec := { name := "fnDecimalOfOfGivesBackItsDecimal", fn := fun _ => fun
  | [d1, d2] => { results := [.lit (.bool true)], args := [d1, d2] }
  | _ => none }
def fnDecimalOfOfGivesBackItsDecimalRow : OpenClaim := { program := "qxb6612285a", sum := "302948f56ee20e07666ff68dbca24661f522535d0a696801c340fecaaaa5456f", func := "example.com/tuoguan/tuoguan/zzlaws_pkg_figure_b1.FnDecimalOfOfGivesBackItsDecimal", spec := "fnDecimalOfOfGivesBackItsDecimal", apart := false }
def FnDecimalOfOfGivesBackItsDecimalSaid : Prop := fnDecimalOfOfGivesBackItsDecimalRow.holds Try.pinned (OpenSpec.ofChange fnDecimalOfOfGivesBackItsDecimalSpec)

/-- ITS FALSE NEIGHBOUR: 'it returns false'. Refute it at one input. -/
def fnDecimalOfOfGivesBackItsDecimalWrong : ChangeSpec := { name := "fnDecimalOfOfGivesBackItsDecimal", fn := fun _ => fun
  | [d1, d2] => { results := [.lit (.bool false)], args := [d1, d2] }
  | _ => none }
def FnDecimalOfOfGivesBackItsDecimalWrongFalsely : Prop := fnDecimalOfOfGivesBackItsDecimalRow.holds Try.pinned (OpenSpec.ofChange fnDecimalOfOfGivesBackItsDecimalWrong)

/-- 'zzlaws_pkg_figure_b1.FnSmallFlagsExactlyTheInt64Form': WHATEVER THE INPUT: true; the input reads as it did. -/
def fnSmallFlagsExactlyTheInt64FormSpec : ChangeSpec := { name := "fnSmallFlagsExactlyTheInt64Form", fn := fun _ => fun
  | [d1, d2] => { results := [.lit (.bool true)], args := [d1, d2] }
  | _ => none }
def fnSmallFlagsExactlyTheInt64FormRow : OpenClaim := { program := "qxb6612285a", sum := "302948f56ee20e07666ff68dbca24661f522535d0a696801c340fecaaaa5456f", func := "example.com/tuoguan/tuoguan/zzlaws_pkg_figure_b1.FnSmallFlagsExactlyTheInt64Form", spec := "fnSmallFlagsExactlyTheInt64Form", apart := false }
def FnSmallFlagsExactlyTheInt64FormSaid : Prop := fnSmallFlagsExactlyTheInt64FormRow.holds Try.pinned (OpenSpec.ofChange fnSmallFlagsExactlyTheInt64FormSpec)

/-- ITS FALSE NEIGHBOUR: 'it returns false'. Refute it at one input. -/
def fnSmallFlagsExactlyTheInt64FormWrong : ChangeSpec := { name := "fnSmallFlagsExactlyTheInt64Form", fn := fun _ => fun
  | [d1, d2] => { results := [.lit (.bool false)], args := [d1, d2] }
  | _ => none }
def FnSmallFlagsExactlyTheInt64FormWrongFalsely : Prop := fnSmallFlagsExactlyTheInt64FormRow.holds Try.pinned (OpenSpec.ofChange fnSmallFlagsExactlyTheInt64FormWrong)

end Rows
end Go.Proofs.Qxb6612285a
