/-
  NARROWER THAN 'FOR EVERY INPUT', by the rows' own cells (each row's printed sentence says how): FnAppendGroupedExact: laid · FnAppendGroupedOnlyInsertsCommas: laid · FnAppendGroupedIdempotent: laid.
  DERIVED. THE GIVEN ROWS OF THIS SEAT. 3 by the template 'for every input the law returns true; each argument reads behind the call as it read before'; 0 by the template 'total and deterministic' (their statements: Qxb6601132aDoorTotals.lean).
  GIVEN WITH THE SEED: the statements are not yours to turn. If you find one false, say at which input.
  Laid BY PROGRAM, IN A SANDBOX (cutbox-rows.mjs): the forced cells as the released guide's own fill.sh prints them over the translation 00f3206ec8f2d0c0… (all of the seat's roots in one cut). By AI agents, Wed Nov 11 2026. No macro, syntax, notation, axiom, sorry.
-/
import Derived.Test.Qxb6601132aDoorChecked
import GoSem.PinnedTables
import GoSem.Claim
import GoSem.ClaimJoined
import GoSem.ClaimMapViews
import Derived.JoinedTies
import Derived.KernelRfl
namespace Go.Proofs.Qxb6601132aDoor
/- THE CELL 'sum', in the pinned program and in every row, IS THE sha256 OF THE DUMP (.gsa) THAT Qxb6601132aDoorProg.lean LOADS. Nothing in Lean hashes anything: it is a label: what it is worth is what the hold of that sum in a sandbox is worth. -/
noncomputable def Tryd.pinned : Pinned := { name := "qxb6601132adoor", sum := "00f3206ec8f2d0c056e1453246eebc15f9d469f2716443d29812c5f80d892eac", checked := Tryd.checked }
namespace Rows
def none {H : Type} : Left H := { results := [], args := [] }

/- WHAT THE LISTED PACKAGE-LEVEL VARIABLES READ AS WHEN THE CALL BEGINS. Each datum BY PROGRAM (the guide's laid-datum.mjs) off the statement by which the dump's own 'gosem.cut.vars' lays the variable. In a bare row this is a premise. The card (Qxb6601132aDoorCards.lean) ties it to the program's text. -/
def laid_unicode_utf8_acceptRanges {H : Type} : DataW H := .agg [.agg [.lit (.int .u8 128), .lit (.int .u8 191)], .agg [.lit (.int .u8 160), .lit (.int .u8 191)], .agg [.lit (.int .u8 128), .lit (.int .u8 159)], .agg [.lit (.int .u8 144), .lit (.int .u8 191)], .agg [.lit (.int .u8 128), .lit (.int .u8 143)], .agg [.lit (.int .u8 0), .lit (.int .u8 0)], .agg [.lit (.int .u8 0), .lit (.int .u8 0)], .agg [.lit (.int .u8 0), .lit (.int .u8 0)], .agg [.lit (.int .u8 0), .lit (.int .u8 0)], .agg [.lit (.int .u8 0), .lit (.int .u8 0)], .agg [.lit (.int .u8 0), .lit (.int .u8 0)], .agg [.lit (.int .u8 0), .lit (.int .u8 0)], .agg [.lit (.int .u8 0), .lit (.int .u8 0)], .agg [.lit (.int .u8 0), .lit (.int .u8 0)], .agg [.lit (.int .u8 0), .lit (.int .u8 0)], .agg [.lit (.int .u8 0), .lit (.int .u8 0)]]
/-- One of Go's own tables, pinned by name: the form's constant. -/
def laid_unicode_utf8_first : DataW Unit := Go.Pinned.utf8First

/-- 'zzlaws_pkg_table_b1.FnAppendGroupedExact': WHATEVER THE INPUT: true; the input reads as it did. -/
def fnAppendGroupedExactSpec : ChangeSpec := { name := "fnAppendGroupedExact", fn := fun _ => fun
  | [d1, d2] => { results := [.lit (.bool true)], args := [d1, d2] }
  | _ => none }
def fnAppendGroupedExactRow : OpenClaim := { program := "qxb6601132adoor", sum := "00f3206ec8f2d0c056e1453246eebc15f9d469f2716443d29812c5f80d892eac", func := "example.com/vestbook/vestbook/zzlaws_pkg_table_b1.FnAppendGroupedExact", spec := "fnAppendGroupedExact", inPlace := ["internal/bytealg.IndexByteString", "internal/bytealg.IndexString"], named := ["internal/bytealg.MaxLen", "unicode/utf8.first", "unicode/utf8.acceptRanges"], apart := false, laid := [("unicode/utf8.acceptRanges", laid_unicode_utf8_acceptRanges), ("unicode/utf8.first", laid_unicode_utf8_first)] }
def FnAppendGroupedExactSaid : Prop := fnAppendGroupedExactRow.holds Tryd.pinned (OpenSpec.ofChange fnAppendGroupedExactSpec)

/-- ITS FALSE NEIGHBOUR: 'it returns false'. Refute it at one input. -/
def fnAppendGroupedExactWrong : ChangeSpec := { name := "fnAppendGroupedExact", fn := fun _ => fun
  | [d1, d2] => { results := [.lit (.bool false)], args := [d1, d2] }
  | _ => none }
def FnAppendGroupedExactWrongFalsely : Prop := fnAppendGroupedExactRow.holds Tryd.pinned (OpenSpec.ofChange fnAppendGroupedExactWrong)

/-- 'zzlaws_pkg_table_b1.FnAppendGroupedOnlyInsertsCommas': WHATEVER THE INPUT: true; the input reads as it did. -/
def fnAppendGroupedOnlyInsertsCommasSpec : ChangeSpec := { name := "fnAppendGroupedOnlyInsertsCommas", fn := fun _ => fun
  | [d1, d2] => { results := [.lit (.bool true)], args := [d1, d2] }
  | _ => none }
def fnAppendGroupedOnlyInsertsCommasRow : OpenClaim := { program := "qxb6601132adoor", sum := "00f3206ec8f2d0c056e1453246eebc15f9d469f2716443d29812c5f80d892eac", func := "example.com/vestbook/vestbook/zzlaws_pkg_table_b1.FnAppendGroupedOnlyInsertsCommas", spec := "fnAppendGroupedOnlyInsertsCommas", inPlace := ["internal/bytealg.IndexByteString", "internal/bytealg.IndexString"], named := ["internal/bytealg.MaxLen", "unicode/utf8.first", "unicode/utf8.acceptRanges"], apart := false, laid := [("unicode/utf8.acceptRanges", laid_unicode_utf8_acceptRanges), ("unicode/utf8.first", laid_unicode_utf8_first)] }
def FnAppendGroupedOnlyInsertsCommasSaid : Prop := fnAppendGroupedOnlyInsertsCommasRow.holds Tryd.pinned (OpenSpec.ofChange fnAppendGroupedOnlyInsertsCommasSpec)

/-- ITS FALSE NEIGHBOUR: 'it returns false'. Refute it at one input. -/
def fnAppendGroupedOnlyInsertsCommasWrong : ChangeSpec := { name := "fnAppendGroupedOnlyInsertsCommas", fn := fun _ => fun
  | [d1, d2] => { results := [.lit (.bool false)], args := [d1, d2] }
  | _ => none }
def FnAppendGroupedOnlyInsertsCommasWrongFalsely : Prop := fnAppendGroupedOnlyInsertsCommasRow.holds Tryd.pinned (OpenSpec.ofChange fnAppendGroupedOnlyInsertsCommasWrong)

/-- 'zzlaws_pkg_table_b1.FnAppendGroupedIdempotent': WHATEVER THE INPUT: true; the input reads as it did. -/
def fnAppendGroupedIdempotentSpec : ChangeSpec := { name := "fnAppendGroupedIdempotent", fn := fun _ => fun
  | [d1, d2] => { results := [.lit (.bool true)], args := [d1, d2] }
  | _ => none }
def fnAppendGroupedIdempotentRow : OpenClaim := { program := "qxb6601132adoor", sum := "00f3206ec8f2d0c056e1453246eebc15f9d469f2716443d29812c5f80d892eac", func := "example.com/vestbook/vestbook/zzlaws_pkg_table_b1.FnAppendGroupedIdempotent", spec := "fnAppendGroupedIdempotent", inPlace := ["internal/bytealg.IndexByteString", "internal/bytealg.IndexString"], named := ["internal/bytealg.MaxLen", "unicode/utf8.first", "unicode/utf8.acceptRanges"], apart := false, laid := [("unicode/utf8.acceptRanges", laid_unicode_utf8_acceptRanges), ("unicode/utf8.first", laid_unicode_utf8_first)] }
def FnAppendGroupedIdempotentSaid : Prop := fnAppendGroupedIdempotentRow.holds Tryd.pinned (OpenSpec.ofChange fnAppendGroupedIdempotentSpec)

/-- ITS FALSE NEIGHBOUR: 'it returns false'. Refute it at one input. -/
def fnAppendGroupedIdempotentWrong : ChangeSpec := { name := "fnAppendGroupedIdempotent", fn := fun _ => fun
  | [d1, d2] => { results := [.lit (.bool false)], args := [d1, d2] }
  | _ => none }
def FnAppendGroupedIdempotentWrongFalsely : Prop := fnAppendGroupedIdempotentRow.holds Tryd.pinned (OpenSpec.ofChange fnAppendGroupedIdempotentWrong)

end Rows
end Go.Proofs.Qxb6601132aDoor
