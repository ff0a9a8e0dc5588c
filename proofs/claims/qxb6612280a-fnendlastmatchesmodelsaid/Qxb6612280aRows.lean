/-
  No cell of these rows narrows 'for every input' (looked for: loops, veiled, ifaces, maps, wideKeys, modest, calm, conditions, laid).
  DERIVED. THE GIVEN ROWS OF THIS SEAT. 4 by the template 'for every input the law returns true; each argument reads behind the call as it read before'; 0 by the template 'total and deterministic' (their statements: Qxb6612280aTotals.lean).
  GIVEN WITH THE SEED: the statements are not yours to turn. If you find one false, say at which input.
  Laid BY PROGRAM, IN A SANDBOX (cutbox-rows.mjs): the forced cells as the released guide's own fill.sh prints them over the translation 87e93c80589b14e1… (all of the seat's roots in one cut). By AI agents, Wed Nov 11 2026. No macro, syntax, notation, axiom, sorry.
-/
import Derived.Test.Qxb6612280aChecked
import GoSem.Claim
import GoSem.ClaimJoined
import GoSem.ClaimMapViews
import Derived.JoinedTies
import Derived.KernelRfl
namespace Go.Proofs.Qxb6612280a
/- THE CELL 'sum', in the pinned program and in every row, IS THE sha256 OF THE DUMP (.gsa) THAT Qxb6612280aProg.lean LOADS. Nothing in Lean hashes anything: it is a label: what it is worth is what the hold of that sum in a sandbox is worth. -/
noncomputable def Try.pinned : Pinned := { name := "qxb6612280a", sum := "87e93c80589b14e12fba3926cea30814b3bb746ef67796957f70aae812176a8d", checked := Try.checked }
namespace Rows
def none {H : Type} : Left H := { results := [], args := [] }

/-- 'zzlaws_root_b1.FnEndLastMatchesModel': WHATEVER THE INPUT: true; the input reads as it did. -/
def fnEndLastMatchesModelSpec : ChangeSpec := { name := "fnEndLastMatchesModel", fn := fun _ => fun
  | [d1, d2, d3, d4, d5, d6] => { results := [.lit (.bool true)], args := [d1, d2, d3, d4, d5, d6] }
  | _ => none }
def fnEndLastMatchesModelRow : OpenClaim := { program := "qxb6612280a", sum := "87e93c80589b14e12fba3926cea30814b3bb746ef67796957f70aae812176a8d", func := "example.com/quillcast/quillcast/zzlaws_root_b1.FnEndLastMatchesModel", spec := "fnEndLastMatchesModel", apart := false }
def FnEndLastMatchesModelSaid : Prop := fnEndLastMatchesModelRow.holds Try.pinned (OpenSpec.ofChange fnEndLastMatchesModelSpec)

/-- ITS FALSE NEIGHBOUR: 'it returns false'. Refute it at one input. -/
def fnEndLastMatchesModelWrong : ChangeSpec := { name := "fnEndLastMatchesModel", fn := fun _ => fun
  | [d1, d2, d3, d4, d5, d6] => { results := [.lit (.bool false)], args := [d1, d2, d3, d4, d5, d6] }
  | _ => none }
def FnEndLastMatchesModelWrongFalsely : Prop := fnEndLastMatchesModelRow.holds Try.pinned (OpenSpec.ofChange fnEndLastMatchesModelWrong)

/-- 'zzlaws_root_b1.FnEndLastOnlyOnce': WHATEVER THE INPUT: true; the input reads as it did. -/
def fnEndLastOnlyOnceSpec : ChangeSpec := { name := "fnEndLastOnlyOnce", fn := fun _ => fun
  | [d1, d2, d3, d4] => { results := [.lit (.bool true)], args := [d1, d2, d3, d4] }
  | _ => none }
def fnEndLastOnlyOnceRow : OpenClaim := { program := "qxb6612280a", sum := "87e93c80589b14e12fba3926cea30814b3bb746ef67796957f70aae812176a8d", func := "example.com/quillcast/quillcast/zzlaws_root_b1.FnEndLastOnlyOnce", spec := "fnEndLastOnlyOnce", apart := false }
def FnEndLastOnlyOnceSaid : Prop := fnEndLastOnlyOnceRow.holds Try.pinned (OpenSpec.ofChange fnEndLastOnlyOnceSpec)

/-- ITS FALSE NEIGHBOUR: 'it returns false'. Refute it at one input. -/
def fnEndLastOnlyOnceWrong : ChangeSpec := { name := "fnEndLastOnlyOnce", fn := fun _ => fun
  | [d1, d2, d3, d4] => { results := [.lit (.bool false)], args := [d1, d2, d3, d4] }
  | _ => none }
def FnEndLastOnlyOnceWrongFalsely : Prop := fnEndLastOnlyOnceRow.holds Try.pinned (OpenSpec.ofChange fnEndLastOnlyOnceWrong)

/-- 'zzlaws_root_b1.FnVacateExactlyWhenAllGone': WHATEVER THE INPUT: true; the input reads as it did. -/
def fnVacateExactlyWhenAllGoneSpec : ChangeSpec := { name := "fnVacateExactlyWhenAllGone", fn := fun _ => fun
  | [d1, d2, d3, d4] => { results := [.lit (.bool true)], args := [d1, d2, d3, d4] }
  | _ => none }
def fnVacateExactlyWhenAllGoneRow : OpenClaim := { program := "qxb6612280a", sum := "87e93c80589b14e12fba3926cea30814b3bb746ef67796957f70aae812176a8d", func := "example.com/quillcast/quillcast/zzlaws_root_b1.FnVacateExactlyWhenAllGone", spec := "fnVacateExactlyWhenAllGone", unfollowed := true, recurses := true, apart := false }
def FnVacateExactlyWhenAllGoneSaid : Prop := fnVacateExactlyWhenAllGoneRow.holds Try.pinned (OpenSpec.ofChange fnVacateExactlyWhenAllGoneSpec)

/-- ITS FALSE NEIGHBOUR: 'it returns false'. Refute it at one input. -/
def fnVacateExactlyWhenAllGoneWrong : ChangeSpec := { name := "fnVacateExactlyWhenAllGone", fn := fun _ => fun
  | [d1, d2, d3, d4] => { results := [.lit (.bool false)], args := [d1, d2, d3, d4] }
  | _ => none }
def FnVacateExactlyWhenAllGoneWrongFalsely : Prop := fnVacateExactlyWhenAllGoneRow.holds Try.pinned (OpenSpec.ofChange fnVacateExactlyWhenAllGoneWrong)

/-- 'zzlaws_root_b1.FnVacateOnlyOnce': WHATEVER THE INPUT: true; the input reads as it did. -/
def fnVacateOnlyOnceSpec : ChangeSpec := { name := "fnVacateOnlyOnce", fn := fun _ => fun
  | [d1, d2, d3, d4] => { results := [.lit (.bool true)], args := [d1, d2, d3, d4] }
  | _ => none }
def fnVacateOnlyOnceRow : OpenClaim := { program := "qxb6612280a", sum := "87e93c80589b14e12fba3926cea30814b3bb746ef67796957f70aae812176a8d", func := "example.com/quillcast/quillcast/zzlaws_root_b1.FnVacateOnlyOnce", spec := "fnVacateOnlyOnce", unfollowed := true, recurses := true, apart := false }
def FnVacateOnlyOnceSaid : Prop := fnVacateOnlyOnceRow.holds Try.pinned (OpenSpec.ofChange fnVacateOnlyOnceSpec)

/-- ITS FALSE NEIGHBOUR: 'it returns false'. Refute it at one input. -/
def fnVacateOnlyOnceWrong : ChangeSpec := { name := "fnVacateOnlyOnce", fn := fun _ => fun
  | [d1, d2, d3, d4] => { results := [.lit (.bool false)], args := [d1, d2, d3, d4] }
  | _ => none }
def FnVacateOnlyOnceWrongFalsely : Prop := fnVacateOnlyOnceRow.holds Try.pinned (OpenSpec.ofChange fnVacateOnlyOnceWrong)

end Rows
end Go.Proofs.Qxb6612280a
