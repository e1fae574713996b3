/-
  NARROWER THAN 'FOR EVERY INPUT', by the rows' own cells (each row's printed sentence says how): FnByNumberMatchesRunModel: laid · FnByNumberIgnoresLeadingZeros: laid · FnByNumberGraphIsAcyclic: laid.
  DERIVED. THE GIVEN ROWS OF THIS SEAT. 3 by the template 'for every input the law returns true; each argument reads behind the call as it read before'; 0 by the template 'total and deterministic' (their statements: Qxb6600314aDoorTotals.lean).
  GIVEN WITH THE SEED: the statements are not yours to turn. If you find one false, say at which input.
  Laid BY PROGRAM, IN A SANDBOX (cutbox-rows.mjs): the forced cells as the released guide's own fill.sh prints them over the translation 2516c6ccc635c680… (all of the seat's roots in one cut). By AI agents, Wed Nov 11 2026. No macro, syntax, notation, axiom, sorry.
-/
import Derived.Test.Qxb6600314aDoorChecked
import GoSem.PinnedTables
import GoSem.Claim
import GoSem.ClaimJoined
import GoSem.ClaimMapViews
import Derived.JoinedTies
import Derived.KernelRfl
namespace Go.Proofs.Qxb6600314aDoor
/- THE CELL 'sum', in the pinned program and in every row, IS THE sha256 OF THE DUMP (.gsa) THAT Qxb6600314aDoorProg.lean LOADS. Nothing in Lean hashes anything: it is a label: what it is worth is what the hold of that sum in a sandbox is worth. -/
noncomputable def Tryd.pinned : Pinned := { name := "qxb6600314adoor", sum := "2516c6ccc635c68007f7f2cafafddb059d938a4d035509822578c72a21260486", checked := Tryd.checked }
namespace Rows
def none {H : Type} : Left H := { results := [], args := [] }

/- WHAT THE LISTED PACKAGE-LEVEL VARIABLES READ AS WHEN THE CALL BEGINS. Each datum BY PROGRAM (the guide's laid-datum.mjs) off the statement by which the dump's own 'gosem.cut.vars' lays the variable. In a bare row this is a premise. The card (Qxb6600314aDoorCards.lean) ties it to the program's text. -/
def laid_unicode_utf8_acceptRanges {H : Type} : DataW H := .agg [.agg [.lit (.int .u8 128), .lit (.int .u8 191)], .agg [.lit (.int .u8 160), .lit (.int .u8 191)], .agg [.lit (.int .u8 128), .lit (.int .u8 159)], .agg [.lit (.int .u8 144), .lit (.int .u8 191)], .agg [.lit (.int .u8 128), .lit (.int .u8 143)], .agg [.lit (.int .u8 0), .lit (.int .u8 0)], .agg [.lit (.int .u8 0), .lit (.int .u8 0)], .agg [.lit (.int .u8 0), .lit (.int .u8 0)], .agg [.lit (.int .u8 0), .lit (.int .u8 0)], .agg [.lit (.int .u8 0), .lit (.int .u8 0)], .agg [.lit (.int .u8 0), .lit (.int .u8 0)], .agg [.lit (.int .u8 0), .lit (.int .u8 0)], .agg [.lit (.int .u8 0), .lit (.int .u8 0)], .agg [.lit (.int .u8 0), .lit (.int .u8 0)], .agg [.lit (.int .u8 0), .lit (.int .u8 0)], .agg [.lit (.int .u8 0), .lit (.int .u8 0)]]
/-- One of Go's own tables, pinned by name: the form's constant. -/
def laid_unicode_utf8_first : DataW Unit := Go.Pinned.utf8First

/-- 'zzlaws_internal_graph_b1.FnByNumberMatchesRunModel': WHATEVER THE INPUT: true; the input reads as it did. -/
def fnByNumberMatchesRunModelSpec : ChangeSpec := { name := "fnByNumberMatchesRunModel", fn := fun _ => fun
  | [d1, d2, d3] => { results := [.lit (.bool true)], args := [d1, d2, d3] }
  | _ => none }
def fnByNumberMatchesRunModelRow : OpenClaim := { program := "qxb6600314adoor", sum := "2516c6ccc635c68007f7f2cafafddb059d938a4d035509822578c72a21260486", func := "example.com/tessera/tessera/zzlaws_internal_graph_b1.FnByNumberMatchesRunModel", spec := "fnByNumberMatchesRunModel", inPlace := ["internal/bytealg.IndexByteString", "internal/bytealg.IndexString"], unfollowed := true, recurses := true, named := ["unicode/utf8.first", "unicode/utf8.acceptRanges", "internal/bytealg.MaxLen"], apart := false, laid := [("unicode/utf8.acceptRanges", laid_unicode_utf8_acceptRanges), ("unicode/utf8.first", laid_unicode_utf8_first)] }
def FnByNumberMatchesRunModelSaid : Prop := fnByNumberMatchesRunModelRow.holds Tryd.pinned (OpenSpec.ofChange fnByNumberMatchesRunModelSpec)

/-- ITS FALSE NEIGHBOUR: 'it returns false'. Refute it at one input. -/
def fnByNumberMatchesRunModelWrong : ChangeSpec := { name := "fnByNumberMatchesRunModel", fn := fun _ => fun
  | [d1, d2, d3] => { results := [.lit (.bool false)], args := [d1, d2, d3] }
  | _ => none }
def FnByNumberMatchesRunModelWrongFalsely : Prop := fnByNumberMatchesRunModelRow.holds Tryd.pinned (OpenSpec.ofChange fnByNumberMatchesRunModelWrong)

/-- 'zzlaws_internal_graph_b1.FnByNumberIgnoresLeadingZeros': WHATEVER THE INPUT: true; the input reads as it did. -/
def fnByNumberIgnoresLeadingZerosSpec : ChangeSpec := { name := "fnByNumberIgnoresLeadingZeros", fn := fun _ => fun
  | [d1, d2, d3, d4] => { results := [.lit (.bool true)], args := [d1, d2, d3, d4] }
  | _ => none }
def fnByNumberIgnoresLeadingZerosRow : OpenClaim := { program := "qxb6600314adoor", sum := "2516c6ccc635c68007f7f2cafafddb059d938a4d035509822578c72a21260486", func := "example.com/tessera/tessera/zzlaws_internal_graph_b1.FnByNumberIgnoresLeadingZeros", spec := "fnByNumberIgnoresLeadingZeros", inPlace := ["internal/bytealg.IndexByteString", "internal/bytealg.IndexString"], unfollowed := true, recurses := true, named := ["unicode/utf8.first", "unicode/utf8.acceptRanges", "internal/bytealg.MaxLen"], apart := false, laid := [("unicode/utf8.acceptRanges", laid_unicode_utf8_acceptRanges), ("unicode/utf8.first", laid_unicode_utf8_first)] }
def FnByNumberIgnoresLeadingZerosSaid : Prop := fnByNumberIgnoresLeadingZerosRow.holds Tryd.pinned (OpenSpec.ofChange fnByNumberIgnoresLeadingZerosSpec)

/-- ITS FALSE NEIGHBOUR: 'it returns false'. Refute it at one input. -/
def fnByNumberIgnoresLeadingZerosWrong : ChangeSpec := { name := "fnByNumberIgnoresLeadingZeros", fn := fun _ => fun
  | [d1, d2, d3, d4] => { results := [.lit (.bool false)], args := [d1, d2, d3, d4] }
  | _ => none }
def FnByNumberIgnoresLeadingZerosWrongFalsely : Prop := fnByNumberIgnoresLeadingZerosRow.holds Tryd.pinned (OpenSpec.ofChange fnByNumberIgnoresLeadingZerosWrong)

/-- 'zzlaws_internal_graph_b1.FnByNumberGraphIsAcyclic': WHATEVER THE INPUT: true; the input reads as it did. -/
def fnByNumberGraphIsAcyclicSpec : ChangeSpec := { name := "fnByNumberGraphIsAcyclic", fn := fun _ => fun
  | [d1, d2, d3] => { results := [.lit (.bool true)], args := [d1, d2, d3] }
  | _ => none }
def fnByNumberGraphIsAcyclicRow : OpenClaim := { program := "qxb6600314adoor", sum := "2516c6ccc635c68007f7f2cafafddb059d938a4d035509822578c72a21260486", func := "example.com/tessera/tessera/zzlaws_internal_graph_b1.FnByNumberGraphIsAcyclic", spec := "fnByNumberGraphIsAcyclic", inPlace := ["internal/bytealg.IndexByteString", "internal/bytealg.IndexString"], unfollowed := true, recurses := true, named := ["unicode/utf8.first", "unicode/utf8.acceptRanges", "internal/bytealg.MaxLen"], apart := false, laid := [("unicode/utf8.acceptRanges", laid_unicode_utf8_acceptRanges), ("unicode/utf8.first", laid_unicode_utf8_first)] }
def FnByNumberGraphIsAcyclicSaid : Prop := fnByNumberGraphIsAcyclicRow.holds Tryd.pinned (OpenSpec.ofChange fnByNumberGraphIsAcyclicSpec)

/-- ITS FALSE NEIGHBOUR: 'it returns false'. Refute it at one input. -/
def fnByNumberGraphIsAcyclicWrong : ChangeSpec := { name := "fnByNumberGraphIsAcyclic", fn := fun _ => fun
  | [d1, d2, d3] => { results := [.lit (.bool false)], args := [d1, d2, d3] }
  | _ => none }
def FnByNumberGraphIsAcyclicWrongFalsely : Prop := fnByNumberGraphIsAcyclicRow.holds Tryd.pinned (OpenSpec.ofChange fnByNumberGraphIsAcyclicWrong)

end Rows
end Go.Proofs.Qxb6600314aDoor
