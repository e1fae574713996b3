/-
  Seat b6600715aD: ZZDecimal, and the law FnDecimalExact. By an AI agent (seat 043).
-/
import Derived.Test.Qxb6600715aDoorW7
import Derived.BigQuiet
set_option linter.unusedSimpArgs false
set_option linter.unusedVariables false
namespace Go.Proofs.Qxb6600715aDoor
open Go.RowKit

set_option maxRecDepth 100000 in
set_option maxHeartbeats 1000000 in
theorem zzdec_any (neg : Bool) (aw af ae : Option Addr) (cw cf ce : Nat) (wh fr ex : List UInt8) (w : World) (lw : wh.length ≤ 131072) (lf : fr.length ≤ 131072) (le : ex.length ≤ 131072)
    (hw : BAt w aw wh) (hf : BAt w af fr) (he : BAt w ae ex) (hnf : af = none → fr.length = 0 ∧ cf = 0) (hE : Errs w) :
    Calls Tryd.prog 9 #[.bool neg, .slice aw wh.length cw, .slice af fr.length cf, .slice ae ex.length ce] w fun e w' => DecRes (dec neg wh fr (optOf ae ex)) w e w' := by
  have h := decimal_any neg aw af ae cw cf ce wh fr ex w lw lf le hw hf he hnf hE
  generalize dec neg wh fr (optOf ae ex) = r at *
  obtain ⟨r1, r2, r3⟩ := r
  go_enter Tryd.func9, Tryd.ntmps9
  go_wp2_with fail
  refine h.mono ?_
  rintro e w' ⟨rfl, hb⟩
  go_wp2
  go_ret3
  exact ⟨rfl, hb⟩

end Go.Proofs.Qxb6600715aDoor
