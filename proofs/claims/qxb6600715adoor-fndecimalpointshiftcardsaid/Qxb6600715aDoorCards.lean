/-
  DERIVED. GIVEN WITH THE SEED: THE CARDS: each row of Qxb6600715aDoorRows.lean that lists a variable, with what it lists TIED to the program's text (the seventh form; the later family's looks); each row that meets fmt, with fmt's text TOLD by the authors' own Lean function (tested against real Go, not proved from fmt's source: count such statements apart). THE CARD IS WHAT COUNTS. Prove the row's statement (the work); the ties are given (Qxb6600715aDoorTie.lean); close each card by the builder's one call (the guide's Derived/Test/ToyasCard.lean, 'card_holds'). Laid BY PROGRAM, IN A SANDBOX (cutbox-door.mjs). By AI agents, Wed Nov 11 2026. No macro, syntax, notation, axiom, sorry.
-/
import Derived.Test.Qxb6600715aDoorRows
import GoSem.ClaimSeven
namespace Go.Proofs.Qxb6600715aDoor
namespace Rows

/-- THE TIED CARD OF 'zzlaws_internal_toml_b1.FnDecimalExact'. -/
def fnDecimalExactCard : Claim7 := { stood := { row := fnDecimalExactRow, standIns := [], harness := (true, "1d52ade13d036bfdd1a452375c40a2236da200c0e70ce3277956e20fad9da5d9"), looks := true }, kinds := [], alts := [], laidByText := true, laidKinds := [.data, .data, .data, .data, .sentinel, .sentinel, .pinned], laidTests := true, laidLooks := .later }
def FnDecimalExactCardSaid : Prop := Claim7.holds Tryd.pinned (.plain (OpenSpec.ofChange fnDecimalExactSpec)) fnDecimalExactCard

/-- THE TIED CARD OF 'zzlaws_internal_toml_b1.FnDecimalPointShift'. -/
def fnDecimalPointShiftCard : Claim7 := { stood := { row := fnDecimalPointShiftRow, standIns := [], harness := (true, "1d52ade13d036bfdd1a452375c40a2236da200c0e70ce3277956e20fad9da5d9"), looks := true }, kinds := [], alts := [], laidByText := true, laidKinds := [.data, .data, .data, .data, .sentinel, .sentinel, .pinned], laidTests := true, laidLooks := .later }
def FnDecimalPointShiftCardSaid : Prop := Claim7.holds Tryd.pinned (.plain (OpenSpec.ofChange fnDecimalPointShiftSpec)) fnDecimalPointShiftCard

/-- THE TIED CARD OF 'zzlaws_internal_toml_b1.FnDecimalIgnoresPaddingZerosAndUnderscores'. -/
def fnDecimalIgnoresPaddingZerosAndUnderscoresCard : Claim7 := { stood := { row := fnDecimalIgnoresPaddingZerosAndUnderscoresRow, standIns := [], harness := (true, "1d52ade13d036bfdd1a452375c40a2236da200c0e70ce3277956e20fad9da5d9"), looks := true }, kinds := [], alts := [], laidByText := true, laidKinds := [.data, .data, .data, .data, .sentinel, .sentinel, .pinned], laidTests := true, laidLooks := .later }
def FnDecimalIgnoresPaddingZerosAndUnderscoresCardSaid : Prop := Claim7.holds Tryd.pinned (.plain (OpenSpec.ofChange fnDecimalIgnoresPaddingZerosAndUnderscoresSpec)) fnDecimalIgnoresPaddingZerosAndUnderscoresCard
end Rows
end Go.Proofs.Qxb6600715aDoor
