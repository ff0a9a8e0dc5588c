/-
  No cell of these rows narrows 'for every input' (looked for: loops, veiled, ifaces, maps, wideKeys, modest, calm, conditions, laid).
  DERIVED. THE GIVEN ROWS OF THIS SEAT. 4 by the template 'for every input the law returns true; each argument reads behind the call as it read before'; 0 by the template 'total and deterministic' (their statements: Qxb6612420aTotals.lean).
  GIVEN WITH THE SEED: the statements are not yours to turn. If you find one false, say at which input.
  Laid BY PROGRAM, IN A SANDBOX (cutbox-rows.mjs): the forced cells as the released guide's own fill.sh prints them over the translation 02dfbc267527b9b6… (all of the seat's roots in one cut). By AI agents, Wed Nov 11 2026. No macro, syntax, notation, axiom, sorry.
-/
import Derived.Test.Qxb6612420aChecked
import GoSem.Claim
import GoSem.ClaimJoined
import GoSem.ClaimMapViews
import Derived.JoinedTies
import Derived.KernelRfl
namespace Go.Proofs.Qxb6612420a
/- THE CELL 'sum', in the pinned program and in every row, IS THE sha256 OF THE DUMP (.gsa) THAT Qxb6612420aProg.lean LOADS. Nothing in Lean hashes anything: it is a label: what it is worth is what the hold of that sum in a sandbox is worth. -/
noncomputable def Try.pinned : Pinned := { name := "qxb6612420a", sum := "02dfbc267527b9b6984fcf70d5f55fcbfb3a9e71ed5716f8aeba1ca15b17a28e", checked := Try.checked }
namespace Rows
def none {H : Type} : Left H := { results := [], args := [] }

/-- 'zzlaws_pkg_rtmp_b1.FnControlMessageFresh': WHATEVER THE INPUT: true; the input reads as it did. -/
def fnControlMessageFreshSpec : ChangeSpec := { name := "fnControlMessageFresh", fn := fun _ => fun
  | [d1, d2, d3] => { results := [.lit (.bool true)], args := [d1, d2, d3] }
  | _ => none }
def fnControlMessageFreshRow : OpenClaim := { program := "qxb6612420a", sum := "02dfbc267527b9b6984fcf70d5f55fcbfb3a9e71ed5716f8aeba1ca15b17a28e", func := "example.com/tributary/tributary/zzlaws_pkg_rtmp_b1.FnControlMessageFresh", spec := "fnControlMessageFresh", apart := false }
def FnControlMessageFreshSaid : Prop := fnControlMessageFreshRow.holds Try.pinned (OpenSpec.ofChange fnControlMessageFreshSpec)

/-- ITS FALSE NEIGHBOUR: 'it returns false'. Refute it at one input. -/
def fnControlMessageFreshWrong : ChangeSpec := { name := "fnControlMessageFresh", fn := fun _ => fun
  | [d1, d2, d3] => { results := [.lit (.bool false)], args := [d1, d2, d3] }
  | _ => none }
def FnControlMessageFreshWrongFalsely : Prop := fnControlMessageFreshRow.holds Try.pinned (OpenSpec.ofChange fnControlMessageFreshWrong)

/-- 'zzlaws_pkg_rtmp_b1.FnNewReaderOwnState': WHATEVER THE INPUT: true; the input reads as it did. -/
def fnNewReaderOwnStateSpec : ChangeSpec := { name := "fnNewReaderOwnState", fn := fun _ => fun
  | [d] => { results := [.lit (.bool true)], args := [d] }
  | _ => none }
def fnNewReaderOwnStateRow : OpenClaim := { program := "qxb6612420a", sum := "02dfbc267527b9b6984fcf70d5f55fcbfb3a9e71ed5716f8aeba1ca15b17a28e", func := "example.com/tributary/tributary/zzlaws_pkg_rtmp_b1.FnNewReaderOwnState", spec := "fnNewReaderOwnState", apart := false }
def FnNewReaderOwnStateSaid : Prop := fnNewReaderOwnStateRow.holds Try.pinned (OpenSpec.ofChange fnNewReaderOwnStateSpec)

/-- ITS FALSE NEIGHBOUR: 'it returns false'. Refute it at one input. -/
def fnNewReaderOwnStateWrong : ChangeSpec := { name := "fnNewReaderOwnState", fn := fun _ => fun
  | [d] => { results := [.lit (.bool false)], args := [d] }
  | _ => none }
def FnNewReaderOwnStateWrongFalsely : Prop := fnNewReaderOwnStateRow.holds Try.pinned (OpenSpec.ofChange fnNewReaderOwnStateWrong)

/-- 'zzlaws_pkg_rtmp_b1.FnReleaseScript': WHATEVER THE INPUT: true; the input reads as it did. -/
def fnReleaseScriptSpec : ChangeSpec := { name := "fnReleaseScript", fn := fun _ => fun
  | [d] => { results := [.lit (.bool true)], args := [d] }
  | _ => none }
def fnReleaseScriptRow : OpenClaim := { program := "qxb6612420a", sum := "02dfbc267527b9b6984fcf70d5f55fcbfb3a9e71ed5716f8aeba1ca15b17a28e", func := "example.com/tributary/tributary/zzlaws_pkg_rtmp_b1.FnReleaseScript", spec := "fnReleaseScript", apart := false }
def FnReleaseScriptSaid : Prop := fnReleaseScriptRow.holds Try.pinned (OpenSpec.ofChange fnReleaseScriptSpec)

/-- ITS FALSE NEIGHBOUR: 'it returns false'. Refute it at one input. -/
def fnReleaseScriptWrong : ChangeSpec := { name := "fnReleaseScript", fn := fun _ => fun
  | [d] => { results := [.lit (.bool false)], args := [d] }
  | _ => none }
def FnReleaseScriptWrongFalsely : Prop := fnReleaseScriptRow.holds Try.pinned (OpenSpec.ofChange fnReleaseScriptWrong)

/-- 'zzlaws_pkg_rtmp_b1.FnReleaseOnce': WHATEVER THE INPUT: true; the input reads as it did. -/
def fnReleaseOnceSpec : ChangeSpec := { name := "fnReleaseOnce", fn := fun _ => fun
  | [d1, d2, d3] => { results := [.lit (.bool true)], args := [d1, d2, d3] }
  | _ => none }
def fnReleaseOnceRow : OpenClaim := { program := "qxb6612420a", sum := "02dfbc267527b9b6984fcf70d5f55fcbfb3a9e71ed5716f8aeba1ca15b17a28e", func := "example.com/tributary/tributary/zzlaws_pkg_rtmp_b1.FnReleaseOnce", spec := "fnReleaseOnce", apart := false }
def FnReleaseOnceSaid : Prop := fnReleaseOnceRow.holds Try.pinned (OpenSpec.ofChange fnReleaseOnceSpec)

/-- ITS FALSE NEIGHBOUR: 'it returns false'. Refute it at one input. -/
def fnReleaseOnceWrong : ChangeSpec := { name := "fnReleaseOnce", fn := fun _ => fun
  | [d1, d2, d3] => { results := [.lit (.bool false)], args := [d1, d2, d3] }
  | _ => none }
def FnReleaseOnceWrongFalsely : Prop := fnReleaseOnceRow.holds Try.pinned (OpenSpec.ofChange fnReleaseOnceWrong)

end Rows
end Go.Proofs.Qxb6612420a
