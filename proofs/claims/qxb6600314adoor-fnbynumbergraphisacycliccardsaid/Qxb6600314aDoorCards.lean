/-
  DERIVED. GIVEN WITH THE SEED: THE CARDS: each row of Qxb6600314aDoorRows.lean that lists a variable, with what it lists TIED to the program's text (the seventh form; the later family's looks); each row that meets fmt, with fmt's text TOLD by the authors' own Lean function (tested against real Go, not proved from fmt's source: count such statements apart). THE CARD IS WHAT COUNTS. Prove the row's statement (the work); the ties are given (Qxb6600314aDoorTie.lean); close each card by the builder's one call (the guide's Derived/Test/ToyasCard.lean, 'card_holds'). Laid BY PROGRAM, IN A SANDBOX (cutbox-door.mjs). By AI agents, Wed Nov 11 2026. No macro, syntax, notation, axiom, sorry.
-/
import Derived.Test.Qxb6600314aDoorRows
import GoSem.ClaimSeven
namespace Go.Proofs.Qxb6600314aDoor
namespace Rows

/-- THE TIED CARD OF 'zzlaws_internal_graph_b1.FnByNumberMatchesRunModel'. -/
def fnByNumberMatchesRunModelCard : Claim7 := { stood := { row := fnByNumberMatchesRunModelRow, standIns := [], harness := (true, "ab5cc93aa072077216c7ad0ad74269b215be2e7c4bd7e49ab98430b42818b426"), looks := false }, kinds := [], alts := [], laidByText := true, laidKinds := [.data, .pinned], laidTests := true, laidLooks := .later }
def FnByNumberMatchesRunModelCardSaid : Prop := Claim7.holds Tryd.pinned (.plain (OpenSpec.ofChange fnByNumberMatchesRunModelSpec)) fnByNumberMatchesRunModelCard

/-- THE TIED CARD OF 'zzlaws_internal_graph_b1.FnByNumberIgnoresLeadingZeros'. -/
def fnByNumberIgnoresLeadingZerosCard : Claim7 := { stood := { row := fnByNumberIgnoresLeadingZerosRow, standIns := [], harness := (true, "ab5cc93aa072077216c7ad0ad74269b215be2e7c4bd7e49ab98430b42818b426"), looks := false }, kinds := [], alts := [], laidByText := true, laidKinds := [.data, .pinned], laidTests := true, laidLooks := .later }
def FnByNumberIgnoresLeadingZerosCardSaid : Prop := Claim7.holds Tryd.pinned (.plain (OpenSpec.ofChange fnByNumberIgnoresLeadingZerosSpec)) fnByNumberIgnoresLeadingZerosCard

/-- THE TIED CARD OF 'zzlaws_internal_graph_b1.FnByNumberGraphIsAcyclic'. -/
def fnByNumberGraphIsAcyclicCard : Claim7 := { stood := { row := fnByNumberGraphIsAcyclicRow, standIns := [], harness := (true, "ab5cc93aa072077216c7ad0ad74269b215be2e7c4bd7e49ab98430b42818b426"), looks := false }, kinds := [], alts := [], laidByText := true, laidKinds := [.data, .pinned], laidTests := true, laidLooks := .later }
def FnByNumberGraphIsAcyclicCardSaid : Prop := Claim7.holds Tryd.pinned (.plain (OpenSpec.ofChange fnByNumberGraphIsAcyclicSpec)) fnByNumberGraphIsAcyclicCard
end Rows
end Go.Proofs.Qxb6600314aDoor
