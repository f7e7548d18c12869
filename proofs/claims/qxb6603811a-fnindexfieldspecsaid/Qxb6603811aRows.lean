/-
  No cell of these rows narrows 'for every input' (looked for: loops, veiled, ifaces, maps, wideKeys, modest, calm, conditions, laid).
  DERIVED. THE GIVEN ROWS OF THIS SEAT. 1 by the template 'for every input the law returns true; each argument reads behind the call as it read before'; 0 by the template 'total and deterministic' (their statements: Qxb6603811aTotals.lean).
  GIVEN WITH THE SEED: the statements are not yours to turn. If you find one false, say at which input.
  Laid BY PROGRAM, IN A SANDBOX (cutbox-rows.mjs): the forced cells as the released guide's own fill.sh prints them over the translation c1f56abddc8c12e7… (all of the seat's roots in one cut). By AI agents, Wed Nov 11 2026. No macro, syntax, notation, axiom, sorry.
-/
import Derived.Test.Qxb6603811aChecked
import GoSem.Claim
import GoSem.ClaimJoined
import GoSem.ClaimMapViews
import Derived.JoinedTies
import Derived.KernelRfl
namespace Go.Proofs.Qxb6603811a
/- THE CELL 'sum', in the pinned program and in every row, IS THE sha256 OF THE DUMP (.gsa) THAT Qxb6603811aProg.lean LOADS. Nothing in Lean hashes anything: it is a label: what it is worth is what the hold of that sum in a sandbox is worth. -/
noncomputable def Try.pinned : Pinned := { name := "qxb6603811a", sum := "c1f56abddc8c12e7afa03e6f1c34cef8a0edb84056cbc72f550f2d21060bfd64", checked := Try.checked }
namespace Rows
def none {H : Type} : Left H := { results := [], args := [] }

/-- 'zzlaws_root_b1.FnIndexFieldSpec': WHATEVER THE INPUT: true; the input reads as it did. -/
def fnIndexFieldSpecSpec : ChangeSpec := { name := "fnIndexFieldSpec", fn := fun _ => fun
  | [d1, d2] => { results := [.lit (.bool true)], args := [d1, d2] }
  | _ => none }
def fnIndexFieldSpecRow : OpenClaim := { program := "qxb6603811a", sum := "c1f56abddc8c12e7afa03e6f1c34cef8a0edb84056cbc72f550f2d21060bfd64", func := "example.com/rootbound/rootbound/zzlaws_root_b1.FnIndexFieldSpec", spec := "fnIndexFieldSpec", apart := false }
def FnIndexFieldSpecSaid : Prop := fnIndexFieldSpecRow.holds Try.pinned (OpenSpec.ofChange fnIndexFieldSpecSpec)

/-- ITS FALSE NEIGHBOUR: 'it returns false'. Refute it at one input. -/
def fnIndexFieldSpecWrong : ChangeSpec := { name := "fnIndexFieldSpec", fn := fun _ => fun
  | [d1, d2] => { results := [.lit (.bool false)], args := [d1, d2] }
  | _ => none }
def FnIndexFieldSpecWrongFalsely : Prop := fnIndexFieldSpecRow.holds Try.pinned (OpenSpec.ofChange fnIndexFieldSpecWrong)

end Rows
end Go.Proofs.Qxb6603811a
