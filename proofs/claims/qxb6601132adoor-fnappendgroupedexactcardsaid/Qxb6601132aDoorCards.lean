/-
  DERIVED. GIVEN WITH THE SEED: THE CARDS: each row of Qxb6601132aDoorRows.lean that lists a variable, with what it lists TIED to the program's text (the seventh form; the later family's looks); each row that meets fmt, with fmt's text TOLD by the authors' own Lean function (tested against real Go, not proved from fmt's source: count such statements apart). THE CARD IS WHAT COUNTS. Prove the row's statement (the work); the ties are given (Qxb6601132aDoorTie.lean); close each card by the builder's one call (the guide's Derived/Test/ToyasCard.lean, 'card_holds'). Laid BY PROGRAM, IN A SANDBOX (cutbox-door.mjs). By AI agents, Wed Nov 11 2026. No macro, syntax, notation, axiom, sorry.
-/
import Derived.Test.Qxb6601132aDoorRows
import GoSem.ClaimSeven
namespace Go.Proofs.Qxb6601132aDoor
namespace Rows

/-- THE TIED CARD OF 'zzlaws_pkg_table_b1.FnAppendGroupedExact'. -/
def fnAppendGroupedExactCard : Claim7 := { stood := { row := fnAppendGroupedExactRow, standIns := [], harness := (true, "5da26aa0ae134a7a7506ac1dcc46f1451a3196c6a5069b01a0aba4febe4e6765"), looks := false }, kinds := [], alts := [], laidByText := true, laidKinds := [.data, .pinned], laidTests := true, laidLooks := .later }
def FnAppendGroupedExactCardSaid : Prop := Claim7.holds Tryd.pinned (.plain (OpenSpec.ofChange fnAppendGroupedExactSpec)) fnAppendGroupedExactCard

/-- THE TIED CARD OF 'zzlaws_pkg_table_b1.FnAppendGroupedOnlyInsertsCommas'. -/
def fnAppendGroupedOnlyInsertsCommasCard : Claim7 := { stood := { row := fnAppendGroupedOnlyInsertsCommasRow, standIns := [], harness := (true, "5da26aa0ae134a7a7506ac1dcc46f1451a3196c6a5069b01a0aba4febe4e6765"), looks := false }, kinds := [], alts := [], laidByText := true, laidKinds := [.data, .pinned], laidTests := true, laidLooks := .later }
def FnAppendGroupedOnlyInsertsCommasCardSaid : Prop := Claim7.holds Tryd.pinned (.plain (OpenSpec.ofChange fnAppendGroupedOnlyInsertsCommasSpec)) fnAppendGroupedOnlyInsertsCommasCard

/-- THE TIED CARD OF 'zzlaws_pkg_table_b1.FnAppendGroupedIdempotent'. -/
def fnAppendGroupedIdempotentCard : Claim7 := { stood := { row := fnAppendGroupedIdempotentRow, standIns := [], harness := (true, "5da26aa0ae134a7a7506ac1dcc46f1451a3196c6a5069b01a0aba4febe4e6765"), looks := false }, kinds := [], alts := [], laidByText := true, laidKinds := [.data, .pinned], laidTests := true, laidLooks := .later }
def FnAppendGroupedIdempotentCardSaid : Prop := Claim7.holds Tryd.pinned (.plain (OpenSpec.ofChange fnAppendGroupedIdempotentSpec)) fnAppendGroupedIdempotentCard
end Rows
end Go.Proofs.Qxb6601132aDoor
