/-
  DERIVED. GIVEN WITH THE SEED: THE CARDS: each row of Qxb6601221aDoorRows.lean that lists a variable, with what it lists TIED to the program's text (the seventh form; the later family's looks); each row that meets fmt, with fmt's text TOLD by the authors' own Lean function (tested against real Go, not proved from fmt's source: count such statements apart). THE CARD IS WHAT COUNTS. Prove the row's statement (the work); the ties are given (Qxb6601221aDoorTie.lean); close each card by the builder's one call (the guide's Derived/Test/ToyasCard.lean, 'card_holds'). Laid BY PROGRAM, IN A SANDBOX (cutbox-door.mjs). By AI agents, Wed Nov 11 2026. No macro, syntax, notation, axiom, sorry.
-/
import Derived.Test.Qxb6601221aDoorRows
import GoSem.ClaimSeven
namespace Go.Proofs.Qxb6601221aDoor
namespace Rows

/-- THE TIED CARD OF 'zzlaws_internal_jcs_b1.FnSignificandMatchesModel'. -/
def fnSignificandMatchesModelCard : Claim7 := { stood := { row := fnSignificandMatchesModelRow, standIns := [], harness := (true, "beadaa1b15252d88c27c39582cf1fdc9fc4e6c743932ff791e3f98d1f9e28bc0"), looks := true }, kinds := [], alts := [], laidByText := true, laidKinds := [.data, .data, .data, .data, .sentinel, .sentinel, .pinned], laidTests := true, laidLooks := .later }
def FnSignificandMatchesModelCardSaid : Prop := Claim7.holds Tryd.pinned (.plain (OpenSpec.ofChange fnSignificandMatchesModelSpec)) fnSignificandMatchesModelCard
end Rows
end Go.Proofs.Qxb6601221aDoor
