/-
  Seat b6600715aD: FnDecimalPointShift: the row and the card. By an AI agent (seat 043).
-/
import Derived.Test.Qxb6600715aDoorWS
import Derived.Test.Qxb6600715aDoorFinA
set_option linter.unusedSimpArgs false
set_option linter.unusedVariables false
namespace Go.Proofs.Qxb6600715aDoor
open Go.ChangeShapes Go.WideShapes Go.ChangeAt Go.WideElems Go.RowKit

theorem errs_of_laid4 {W : World} (hL : laidMetH Tryd.prog Rows.fnDecimalPointShiftRow.laid W) : Errs W := by
  rw [MakeChecks.laidMetH_plain _ _ _ (by kernel_rfl)] at hL
  have h1 := laidMet_tail (laidMet_tail (laidMet_tail (laidMet_tail hL)))
  have h2 := laidMet_tail h1
  obtain ⟨u2, v2, c2⟩ := laid_iface h1 (g := 2) (ti := 44) (by kernel_rfl) (by kernel_rfl) Tryd.underlying44
  obtain ⟨u1, v1, c1⟩ := laid_iface h2 (g := 1) (ti := 44) (by kernel_rfl) (by kernel_rfl) Tryd.underlying44
  exact ⟨_, _, c1, .inr ⟨_, _, rfl⟩, c2, .inr ⟨_, _, rfl⟩⟩

set_option maxRecDepth 100000 in
theorem lifted4 (os : Os) (started : os.Started) (H : Type) (enc : TypeId × Value → H) :
    ReturnsInHanded {} Tryd.checked os 4 .any (fun w args => (Rows.fnDecimalPointShiftSpec.pre enc Tryd.prog Tryd.f4 [] false w args ∧ laidMetH Tryd.prog Rows.fnDecimalPointShiftRow.laid w) ∧ sizedMet enc Tryd.prog Tryd.f4 (OpenSpec.ofChange Rows.fnDecimalPointShiftSpec) false w args)
      (Rows.fnDecimalPointShiftSpec.post enc Tryd.prog Tryd.f4 false true false false) := by
  refine returnsInHanded_of_change_and (C := Tryd.checked) (X := fun w _ => laidMetH Tryd.prog Rows.fnDecimalPointShiftRow.laid w) (fun _ _ _ hh h => h.of_heap hh) own started (by kernel_rfl) Tryd.func4
    (ChangeSpec.witness_shaped (enc := enc) (C := Tryd.checked) (os := os) (X := fun w _ => laidMetH Tryd.prog Rows.fnDecimalPointShiftRow.laid w) false (World.laidAll Tryd.prog os Rows.fnDecimalPointShiftRow.laid) #[.bool false, .slice none 0 0, .slice none 0 0, .slice none 0 0] 8 (World.laidAll_os _ _ _)
      (World.shaped_of_ZipB (by kernel_rfl) (by kernel_rfl)) (by kernel_rfl) (by kernel_rfl) (by kernel_rfl)
      (by rw [MakeChecks.laidMetH_plain _ _ _ (by kernel_rfl)]; exact laidMet_laidAll _ (by kernel_rfl) (by kernel_rfl))) ?_
  intro W base args ds gs before hval0 hW _ _ hL _
  have hval : ∀ (j : Nat) t v, Tryd.f4.params[j]? = some t → args[j]? = some v → Value.okWide Tryd.prog W .any base t v := hval0
  have hW' := hW
  obtain ⟨p, q, hA0, hV, rfl, _, _⟩ := hW
  have hA : DataW.TrodAll enc Tryd.prog W 0 (fun _ => true) true Tryd.f4.params.toList args.toList ds p := hA0
  rw [Tryd.params4] at hA hval
  obtain ⟨vb, v0, v1, v2, db, d0, d1, d2, pb, p0, p1, p2, rfl, rfl, rfl, hb0, h0, h1, h2⟩ := trodAll_four hA
  obtain ⟨rfl, rfl⟩ := trodVars_none hV
  obtain ⟨neg, rfl, rfl, rfl⟩ := open_bool Tryd.underlying4 (hval 0 4 vb rfl rfl) hb0
  obtain ⟨a0, n0, c0, s0, rfl, l0, e0, g0⟩ := view_bytes (hval 1 22 v0 rfl rfl) h0
  obtain ⟨a1, n1, c1, s1, rfl, l1, e1, g1⟩ := view_bytes (hval 2 22 v1 rfl rfl) h1
  obtain ⟨a2, n2, c2, s2, rfl, l2, e2, g2⟩ := view_bytes (hval 3 22 v2 rfl rfl) h2
  simp only [List.append_nil, List.nil_append] at hW'
  refine (lawShift neg a0 a1 a2 n0 n1 n2 c0 c1 c2 s0 s1 s2 W l0 l1 l2 e0 e1 e2 g0 g1 g2 (errs_of_laid4 hL)).mono fun e W' ⟨he, hb⟩ => ?_
  subst he
  have hlt : ∀ x ∈ p0 ++ p1 ++ p2, x.block < W.heap.size := fun x hx => hW'.lt x (by simpa using hx)
  have tb := Below.trod laidOut (by kernel_rfl) (of_decide_eq_true (by kernel_rfl)) hb0 hb (fun x hx => by cases hx)
  have t0 := Below.trod laidOut (by kernel_rfl) (of_decide_eq_true (by kernel_rfl)) h0 hb (fun x hx => hlt x (by simp [hx]))
  have t1 := Below.trod laidOut (by kernel_rfl) (of_decide_eq_true (by kernel_rfl)) h1 hb (fun x hx => hlt x (by simp [hx]))
  have t2 := Below.trod laidOut (by kernel_rfl) (of_decide_eq_true (by kernel_rfl)) h2 hb (fun x hx => hlt x (by simp [hx]))
  exact ⟨_, rfl, _, _, _, [], [] ++ (p0 ++ (p1 ++ p2)), [], hW', trodAll_mk1 (shut_bool Tryd.underlying4 _), trodAll_mk4 tb t0 t1 t2, rfl, hb.frame _, fun h => by cases h⟩

theorem fnDecimalPointShift_holds : Rows.FnDecimalPointShiftSaid :=
  OpenClaim.holds_of_wide 4 Tryd.f4 rfl rfl rfl rfl rfl rfl rfl ⟨rfl, rfl, rfl, rfl, rfl⟩ rfl rfl rfl rfl rfl (by kernel_rfl) Tryd.func4 (by kernel_rfl)
    (of_decide_eq_true (by kernel_rfl)) (by unfold Func.isWrapper; first | (rw [if_pos (by decide +kernel)]; kernel_rfl) | (rw [if_neg (by decide +kernel)]; exact ⟨rfl, rfl⟩))
    (fun os started H enc _ => lifted4 os started H enc)

/-- ████ THE CARD ████ -/
theorem fnDecimalPointShift_card : Rows.FnDecimalPointShiftCardSaid :=
  Claim7.holds_tied_plain_at .later [] [.data, .data, .data, .data, .sentinel, .sentinel, .pinned] true Rows.fnDecimalPointShiftCard.stood.harness true
    fnDecimalPointShift_holds (fun _ h => by cases h) (by kernel_rfl) (fun _ h => by cases h) fnDecimalPointShift_row_tie rfl ⟨rfl, rfl⟩ (by kernel_rfl) rfl
    (fun f fn hf hfn => by
      obtain rfl : f = 4 := Option.some.inj ((show Tryd.prog.funcNamed Rows.fnDecimalPointShiftRow.func = some 4 by kernel_rfl).symm.trans hf) |>.symm
      obtain rfl : fn = Tryd.f4 := (Option.some.inj (Tryd.func4.symm.trans hfn)).symm
      exact ⟨by kernel_rfl, fun j t ht => by
        rw [Tryd.params4] at ht
        have hm : t ∈ [4, 22, 22, 22] := by simpa using Array.mem_of_getElem? ht
        have hall : ([4, 22, 22, 22].all fun u => !Tryd.prog.wantsStandIn u) = true := by kernel_rfl
        exact (show Tryd.prog.wantsStandIn t = false by simpa using List.all_eq_true.1 hall t hm)⟩)
    (by kernel_rfl)
end Go.Proofs.Qxb6600715aDoor
