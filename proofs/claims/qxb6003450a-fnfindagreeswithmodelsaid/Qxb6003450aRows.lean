/-
  No cell of these rows narrows 'for every input' (looked for: loops, veiled, ifaces, maps, wideKeys, modest, calm, conditions, laid).
  DERIVED. THE GIVEN ROWS OF THIS SEAT. 6 by the template 'for every input the law returns true; each argument reads behind the call as it read before'; 0 by the template 'total and deterministic' (their statements: Qxb6003450aTotals.lean).
  GIVEN WITH THE SEED: the statements are not yours to turn. If you find one false, say at which input.
  Laid BY PROGRAM, IN A SANDBOX (cutbox-rows.mjs): the forced cells as the released guide's own fill.sh prints them over the translation 94d97e079df361a5… (all of the seat's roots in one cut). By AI agents, Wed Nov 11 2026. No macro, syntax, notation, axiom, sorry.
-/
import Derived.Test.Qxb6003450aChecked
import GoSem.Claim
import GoSem.ClaimJoined
import GoSem.ClaimMapViews
import Derived.JoinedTies
import Derived.KernelRfl
namespace Go.Proofs.Qxb6003450a
/- THE CELL 'sum', in the pinned program and in every row, IS THE sha256 OF THE DUMP (.gsa) THAT Qxb6003450aProg.lean LOADS. Nothing in Lean hashes anything: it is a label: what it is worth is what the hold of that sum in a sandbox is worth. -/
noncomputable def Try.pinned : Pinned := { name := "qxb6003450a", sum := "94d97e079df361a53a0ef415c0d77faa49ce58faecc120fd273619821b1239e3", checked := Try.checked }
namespace Rows
def none {H : Type} : Left H := { results := [], args := [] }

/-- 'zzlaws_pkg_zone_b1.FnFindAgreesWithModel': WHATEVER THE INPUT: true; the input reads as it did. -/
def fnFindAgreesWithModelSpec : ChangeSpec := { name := "fnFindAgreesWithModel", fn := fun _ => fun
  | [d1, d2, d3, d4, d5, d6, d7, d8, d9] => { results := [.lit (.bool true)], args := [d1, d2, d3, d4, d5, d6, d7, d8, d9] }
  | _ => none }
def fnFindAgreesWithModelRow : OpenClaim := { program := "qxb6003450a", sum := "94d97e079df361a53a0ef415c0d77faa49ce58faecc120fd273619821b1239e3", func := "example.com/namewell/namewell/zzlaws_pkg_zone_b1.FnFindAgreesWithModel", spec := "fnFindAgreesWithModel", apart := false }
def FnFindAgreesWithModelSaid : Prop := fnFindAgreesWithModelRow.holds Try.pinned (OpenSpec.ofChange fnFindAgreesWithModelSpec)

/-- ITS FALSE NEIGHBOUR: 'it returns false'. Refute it at one input. -/
def fnFindAgreesWithModelWrong : ChangeSpec := { name := "fnFindAgreesWithModel", fn := fun _ => fun
  | [d1, d2, d3, d4, d5, d6, d7, d8, d9] => { results := [.lit (.bool false)], args := [d1, d2, d3, d4, d5, d6, d7, d8, d9] }
  | _ => none }
def FnFindAgreesWithModelWrongFalsely : Prop := fnFindAgreesWithModelRow.holds Try.pinned (OpenSpec.ofChange fnFindAgreesWithModelWrong)

/-- 'zzlaws_pkg_zone_b1.FnFindIgnoresCase': WHATEVER THE INPUT: true; the input reads as it did. -/
def fnFindIgnoresCaseSpec : ChangeSpec := { name := "fnFindIgnoresCase", fn := fun _ => fun
  | [d1, d2, d3, d4, d5, d6, d7, d8, d9, d10] => { results := [.lit (.bool true)], args := [d1, d2, d3, d4, d5, d6, d7, d8, d9, d10] }
  | _ => none }
def fnFindIgnoresCaseRow : OpenClaim := { program := "qxb6003450a", sum := "94d97e079df361a53a0ef415c0d77faa49ce58faecc120fd273619821b1239e3", func := "example.com/namewell/namewell/zzlaws_pkg_zone_b1.FnFindIgnoresCase", spec := "fnFindIgnoresCase", apart := false }
def FnFindIgnoresCaseSaid : Prop := fnFindIgnoresCaseRow.holds Try.pinned (OpenSpec.ofChange fnFindIgnoresCaseSpec)

/-- ITS FALSE NEIGHBOUR: 'it returns false'. Refute it at one input. -/
def fnFindIgnoresCaseWrong : ChangeSpec := { name := "fnFindIgnoresCase", fn := fun _ => fun
  | [d1, d2, d3, d4, d5, d6, d7, d8, d9, d10] => { results := [.lit (.bool false)], args := [d1, d2, d3, d4, d5, d6, d7, d8, d9, d10] }
  | _ => none }
def FnFindIgnoresCaseWrongFalsely : Prop := fnFindIgnoresCaseRow.holds Try.pinned (OpenSpec.ofChange fnFindIgnoresCaseWrong)

/-- 'zzlaws_pkg_zone_b1.FnNewBuilderHoldsOriginAlone': WHATEVER THE INPUT: true; the input reads as it did. -/
def fnNewBuilderHoldsOriginAloneSpec : ChangeSpec := { name := "fnNewBuilderHoldsOriginAlone", fn := fun _ => fun
  | [d1, d2, d3, d4, d5, d6] => { results := [.lit (.bool true)], args := [d1, d2, d3, d4, d5, d6] }
  | _ => none }
def fnNewBuilderHoldsOriginAloneRow : OpenClaim := { program := "qxb6003450a", sum := "94d97e079df361a53a0ef415c0d77faa49ce58faecc120fd273619821b1239e3", func := "example.com/namewell/namewell/zzlaws_pkg_zone_b1.FnNewBuilderHoldsOriginAlone", spec := "fnNewBuilderHoldsOriginAlone", inPlace := ["internal/abi.NoEscape", "internal/bytealg.MakeNoZero"], apart := false }
def FnNewBuilderHoldsOriginAloneSaid : Prop := fnNewBuilderHoldsOriginAloneRow.holds Try.pinned (OpenSpec.ofChange fnNewBuilderHoldsOriginAloneSpec)

/-- ITS FALSE NEIGHBOUR: 'it returns false'. Refute it at one input. -/
def fnNewBuilderHoldsOriginAloneWrong : ChangeSpec := { name := "fnNewBuilderHoldsOriginAlone", fn := fun _ => fun
  | [d1, d2, d3, d4, d5, d6] => { results := [.lit (.bool false)], args := [d1, d2, d3, d4, d5, d6] }
  | _ => none }
def FnNewBuilderHoldsOriginAloneWrongFalsely : Prop := fnNewBuilderHoldsOriginAloneRow.holds Try.pinned (OpenSpec.ofChange fnNewBuilderHoldsOriginAloneWrong)

/-- 'zzlaws_pkg_zone_b1.FnSpellKeepsEveryRecord': WHATEVER THE INPUT: true; the input reads as it did. -/
def fnSpellKeepsEveryRecordSpec : ChangeSpec := { name := "fnSpellKeepsEveryRecord", fn := fun _ => fun
  | [d1, d2, d3, d4, d5, d6, d7, d8] => { results := [.lit (.bool true)], args := [d1, d2, d3, d4, d5, d6, d7, d8] }
  | _ => none }
def fnSpellKeepsEveryRecordRow : OpenClaim := { program := "qxb6003450a", sum := "94d97e079df361a53a0ef415c0d77faa49ce58faecc120fd273619821b1239e3", func := "example.com/namewell/namewell/zzlaws_pkg_zone_b1.FnSpellKeepsEveryRecord", spec := "fnSpellKeepsEveryRecord", inPlace := ["internal/abi.NoEscape", "internal/bytealg.MakeNoZero"], apart := false }
def FnSpellKeepsEveryRecordSaid : Prop := fnSpellKeepsEveryRecordRow.holds Try.pinned (OpenSpec.ofChange fnSpellKeepsEveryRecordSpec)

/-- ITS FALSE NEIGHBOUR: 'it returns false'. Refute it at one input. -/
def fnSpellKeepsEveryRecordWrong : ChangeSpec := { name := "fnSpellKeepsEveryRecord", fn := fun _ => fun
  | [d1, d2, d3, d4, d5, d6, d7, d8] => { results := [.lit (.bool false)], args := [d1, d2, d3, d4, d5, d6, d7, d8] }
  | _ => none }
def FnSpellKeepsEveryRecordWrongFalsely : Prop := fnSpellKeepsEveryRecordRow.holds Try.pinned (OpenSpec.ofChange fnSpellKeepsEveryRecordWrong)

/-- 'zzlaws_pkg_zone_b1.FnSpellListsEachNodesOtherSpellingsOnce': WHATEVER THE INPUT: true; the input reads as it did. -/
def fnSpellListsEachNodesOtherSpellingsOnceSpec : ChangeSpec := { name := "fnSpellListsEachNodesOtherSpellingsOnce", fn := fun _ => fun
  | [d1, d2, d3, d4, d5, d6, d7, d8, d9, d10] => { results := [.lit (.bool true)], args := [d1, d2, d3, d4, d5, d6, d7, d8, d9, d10] }
  | _ => none }
def fnSpellListsEachNodesOtherSpellingsOnceRow : OpenClaim := { program := "qxb6003450a", sum := "94d97e079df361a53a0ef415c0d77faa49ce58faecc120fd273619821b1239e3", func := "example.com/namewell/namewell/zzlaws_pkg_zone_b1.FnSpellListsEachNodesOtherSpellingsOnce", spec := "fnSpellListsEachNodesOtherSpellingsOnce", inPlace := ["internal/abi.NoEscape", "internal/bytealg.MakeNoZero"], apart := false }
def FnSpellListsEachNodesOtherSpellingsOnceSaid : Prop := fnSpellListsEachNodesOtherSpellingsOnceRow.holds Try.pinned (OpenSpec.ofChange fnSpellListsEachNodesOtherSpellingsOnceSpec)

/-- ITS FALSE NEIGHBOUR: 'it returns false'. Refute it at one input. -/
def fnSpellListsEachNodesOtherSpellingsOnceWrong : ChangeSpec := { name := "fnSpellListsEachNodesOtherSpellingsOnce", fn := fun _ => fun
  | [d1, d2, d3, d4, d5, d6, d7, d8, d9, d10] => { results := [.lit (.bool false)], args := [d1, d2, d3, d4, d5, d6, d7, d8, d9, d10] }
  | _ => none }
def FnSpellListsEachNodesOtherSpellingsOnceWrongFalsely : Prop := fnSpellListsEachNodesOtherSpellingsOnceRow.holds Try.pinned (OpenSpec.ofChange fnSpellListsEachNodesOtherSpellingsOnceWrong)

/-- 'zzlaws_pkg_zone_b1.FnSpellTwiceIsSpellOnce': WHATEVER THE INPUT: true; the input reads as it did. -/
def fnSpellTwiceIsSpellOnceSpec : ChangeSpec := { name := "fnSpellTwiceIsSpellOnce", fn := fun _ => fun
  | [d1, d2, d3, d4, d5, d6, d7, d8] => { results := [.lit (.bool true)], args := [d1, d2, d3, d4, d5, d6, d7, d8] }
  | _ => none }
def fnSpellTwiceIsSpellOnceRow : OpenClaim := { program := "qxb6003450a", sum := "94d97e079df361a53a0ef415c0d77faa49ce58faecc120fd273619821b1239e3", func := "example.com/namewell/namewell/zzlaws_pkg_zone_b1.FnSpellTwiceIsSpellOnce", spec := "fnSpellTwiceIsSpellOnce", inPlace := ["internal/abi.NoEscape", "internal/bytealg.MakeNoZero"], apart := false }
def FnSpellTwiceIsSpellOnceSaid : Prop := fnSpellTwiceIsSpellOnceRow.holds Try.pinned (OpenSpec.ofChange fnSpellTwiceIsSpellOnceSpec)

/-- ITS FALSE NEIGHBOUR: 'it returns false'. Refute it at one input. -/
def fnSpellTwiceIsSpellOnceWrong : ChangeSpec := { name := "fnSpellTwiceIsSpellOnce", fn := fun _ => fun
  | [d1, d2, d3, d4, d5, d6, d7, d8] => { results := [.lit (.bool false)], args := [d1, d2, d3, d4, d5, d6, d7, d8] }
  | _ => none }
def FnSpellTwiceIsSpellOnceWrongFalsely : Prop := fnSpellTwiceIsSpellOnceRow.holds Try.pinned (OpenSpec.ofChange fnSpellTwiceIsSpellOnceWrong)

end Rows
end Go.Proofs.Qxb6003450a
