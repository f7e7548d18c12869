/-
  DERIVED. GIVEN WITH THE SEED: THE CARDS: each row of Qxb6603811aDoorRows.lean that lists a variable, with what it lists TIED to the program's text (the seventh form; the later family's looks); each row that meets fmt, with fmt's text TOLD by the authors' own Lean function (tested against real Go, not proved from fmt's source: count such statements apart). THE CARD IS WHAT COUNTS. Prove the row's statement (the work); the ties are given (Qxb6603811aDoorTie.lean); close each card by the builder's one call (the guide's Derived/Test/ToyasCard.lean, 'card_holds'). Laid BY PROGRAM, IN A SANDBOX (cutbox-door.mjs). By AI agents, Wed Nov 11 2026. No macro, syntax, notation, axiom, sorry.
-/
import Derived.Test.Qxb6603811aDoorRows
import GoSem.ClaimSeven
namespace Go.Proofs.Qxb6603811aDoor
namespace Rows

/-- THE TIED CARD OF 'zzlaws_root_b1.FnAppendTileNameSpec'. -/
def fnAppendTileNameSpecCard : Claim7 := { stood := { row := fnAppendTileNameSpecRow, standIns := [], harness := (true, "a9e2830537da0b802fc47b38961737600fe60248cda3b1e089116c993044f41f"), looks := false }, kinds := [], alts := [], laidByText := true, laidKinds := [.data, .data, .data], laidTests := true, laidLooks := .later }
def FnAppendTileNameSpecCardSaid : Prop := Claim7.holds Tryd.pinned (.plain (OpenSpec.ofChange fnAppendTileNameSpecSpec)) fnAppendTileNameSpecCard

/-- THE TIED CARD OF 'zzlaws_root_b1.FnAppendTileNameInjective'. -/
def fnAppendTileNameInjectiveCard : Claim7 := { stood := { row := fnAppendTileNameInjectiveRow, standIns := [], harness := (true, "a9e2830537da0b802fc47b38961737600fe60248cda3b1e089116c993044f41f"), looks := false }, kinds := [], alts := [], laidByText := true, laidKinds := [.data, .data, .data], laidTests := true, laidLooks := .later }
def FnAppendTileNameInjectiveCardSaid : Prop := Claim7.holds Tryd.pinned (.plain (OpenSpec.ofChange fnAppendTileNameInjectiveSpec)) fnAppendTileNameInjectiveCard
end Rows
end Go.Proofs.Qxb6603811aDoor
