/-
  Seat b6600314aD: FnByNumberGraphIsAcyclic: the row and the card. By an AI agent (seat 043).
-/
import Derived.Test.Qxb6600314aDoorC4
import Derived.Test.Qxb6600314aDoorTie
import Derived.Test.Qxb6600314aDoorCards
import Derived.ProofKit
import Derived.OpenShut
import Derived.SliceStrings
import Derived.Lay
import Derived.SevenTiedAt
set_option linter.unusedSimpArgs false
set_option linter.unusedVariables false
namespace Go.Proofs.Qxb6600314aDoor
open Go.ChangeShapes Go.WideShapes Go.ChangeAt Go.WideElems Go.RowKit

theorem own : ownKnob Tryd.prog.godebug = none := by kernel_rfl
theorem laidOut : laidOutB Tryd.prog = true := by kernel_rfl
theorem cells9 : Tryd.prog.cellsOf 9 = 1 := by kernel_rfl
theorem cells22 : Tryd.prog.cellsOf 22 = 1 := by kernel_rfl

/-- What a slice of strings that came in gives the walks. -/
theorem view_strs {H : Type} {enc : TypeId × Value → H} {W : World} {base : Nat} {v : Value} {d : DataW H} {p : List MemPlace} (hv : Value.okWide Tryd.prog W .any base 22 v) (h : DataW.Trod enc Tryd.prog W 0 (fun _ => true) true 22 v d p) :
    ∃ a n cap ss, v = .slice a n cap ∧ ss.length = n ∧ n ≤ 9223372036854775807 ∧ (a = none → n = 0) ∧ (∀ s ∈ ss, s.size ≤ 9223372036854775807) ∧ StrAt W a ss := by
  obtain ⟨a0, len, cap, rfl⟩ := okWide_slice Tryd.underlying22 hv
  obtain ⟨fuel, hf⟩ := h
  rcases open_strings Tryd.underlying22 Tryd.underlying9 cells9 hf with ⟨hcs, hx⟩ | ⟨a, len', cap', ss, hcs, _, hl, hm, hz, hx, hcell, hws⟩
  · simp [Value.cells] at hcs
    obtain ⟨rfl, rfl, rfl⟩ := hcs
    exact ⟨none, 0, 0, [], rfl, rfl, by omega, fun _ => rfl, by simp, fun k s h => by simp at h⟩
  · simp [Value.cells] at hcs
    obtain ⟨rfl, rfl, rfl⟩ := hcs
    simp only [if_true] at hz
    unfold maxLen at hm hws
    refine ⟨some a, len, cap, ss.take len, rfl, by simp; omega, by omega, fun h => by simp at h, fun s hs => hws s (List.mem_of_mem_take hs), fun k s hk => ?_⟩
    rw [List.getElem?_take] at hk
    split at hk
    · have hkl := (List.getElem?_eq_some_iff.1 hk).1
      have hc := hcell k hkl
      have hc0 := hcell 0 (by omega)
      obtain ⟨b, off, spot⟩ := a
      have hspot : spot = none := by simpa [Addr.add] using World.cell?_spot hc0
      subst hspot
      refine ⟨b, off, rfl, ?_⟩
      rw [addr_add] at hc
      rw [hc, List.getD_eq_getElem?_getD, hk]
      rfl
    · cases hk

set_option maxRecDepth 100000 in
theorem lifted5 (os : Os) (started : os.Started) (H : Type) (enc : TypeId × Value → H) :
    ReturnsInHanded {} Tryd.checked os 5 .any (fun w args => (Rows.fnByNumberGraphIsAcyclicSpec.pre enc Tryd.prog Tryd.f5 [] false w args ∧ laidMetH Tryd.prog Rows.fnByNumberGraphIsAcyclicRow.laid w) ∧ sizedMet enc Tryd.prog Tryd.f5 (OpenSpec.ofChange Rows.fnByNumberGraphIsAcyclicSpec) false w args)
      (Rows.fnByNumberGraphIsAcyclicSpec.post enc Tryd.prog Tryd.f5 false true false false) := by
  refine returnsInHanded_of_change_and (C := Tryd.checked) (X := fun w _ => laidMetH Tryd.prog Rows.fnByNumberGraphIsAcyclicRow.laid w) (fun _ _ _ hh h => h.of_heap hh) own started (by kernel_rfl) Tryd.func5
    (ChangeSpec.witness_shaped (enc := enc) (C := Tryd.checked) (os := os) (X := fun w _ => laidMetH Tryd.prog Rows.fnByNumberGraphIsAcyclicRow.laid w) false (World.laidAll Tryd.prog os Rows.fnByNumberGraphIsAcyclicRow.laid) #[.slice none 0 0, .slice none 0 0, .slice none 0 0] 8 (World.laidAll_os _ _ _)
      (World.shaped_of_ZipB (by kernel_rfl) (by kernel_rfl)) (by kernel_rfl) (by kernel_rfl) (by kernel_rfl)
      (by rw [MakeChecks.laidMetH_plain _ _ _ (by kernel_rfl)]; exact laidMet_laidAll _ (by kernel_rfl) (by kernel_rfl))) ?_
  intro W base args ds gs before hval0 hW _ _ hL _
  have hval : ∀ (j : Nat) t v, Tryd.f5.params[j]? = some t → args[j]? = some v → Value.okWide Tryd.prog W .any base t v := hval0
  have hW' := hW
  obtain ⟨p, q, hA0, hV, rfl, _, _⟩ := hW
  have hA : DataW.TrodAll enc Tryd.prog W 0 (fun _ => true) true Tryd.f5.params.toList args.toList ds p := hA0
  rw [Tryd.params5] at hA hval
  obtain ⟨v0, v1, v2, d0, d1, d2, p0, p1, p2, rfl, rfl, rfl, h0, h1, h2⟩ := trodAll_three hA
  obtain ⟨rfl, rfl⟩ := trodVars_none hV
  obtain ⟨a0, n0, c0, s0, rfl, l0, m0, e0, z0, g0⟩ := view_strs (hval 0 22 v0 rfl rfl) h0
  obtain ⟨a1, n1, c1, s1, rfl, l1, m1, e1, z1, g1⟩ := view_strs (hval 1 22 v1 rfl rfl) h1
  obtain ⟨a2, n2, c2, s2, rfl, l2, m2, e2, z2, g2⟩ := view_strs (hval 2 22 v2 rfl rfl) h2
  simp only [List.append_nil] at hW'
  refine (law5 a0 a1 a2 n0 n1 n2 c0 c1 c2 s0 s1 s2 W l0 l1 l2 m0 m1 m2 e0 e1 e2 z0 z2 g0 g1 g2).mono fun e W' ⟨he, hb⟩ => ?_
  subst he
  have hlt : ∀ x ∈ p0 ++ p1 ++ p2, x.block < W.heap.size := fun x hx => hW'.lt x (by simpa using hx)
  have t0 := Below.trod laidOut (by kernel_rfl) (of_decide_eq_true (by kernel_rfl)) h0 hb (fun x hx => hlt x (by simp [hx]))
  have t1 := Below.trod laidOut (by kernel_rfl) (of_decide_eq_true (by kernel_rfl)) h1 hb (fun x hx => hlt x (by simp [hx]))
  have t2 := Below.trod laidOut (by kernel_rfl) (of_decide_eq_true (by kernel_rfl)) h2 hb (fun x hx => hlt x (by simp [hx]))
  exact ⟨_, rfl, _, _, _, [], p0 ++ (p1 ++ p2), [], hW', trodAll_mk1 (shut_bool Tryd.underlying4 _), trodAll_mk3 t0 t1 t2, rfl, hb.frame _, fun h => by cases h⟩

theorem fnByNumberGraphIsAcyclic_holds : Rows.FnByNumberGraphIsAcyclicSaid :=
  OpenClaim.holds_of_wide 5 Tryd.f5 rfl rfl rfl rfl rfl rfl rfl ⟨rfl, rfl, rfl, rfl, rfl⟩ rfl rfl rfl rfl rfl (by kernel_rfl) Tryd.func5 (by kernel_rfl)
    (of_decide_eq_true (by kernel_rfl)) (by unfold Func.isWrapper; first | (rw [if_pos (by decide +kernel)]; kernel_rfl) | (rw [if_neg (by decide +kernel)]; exact ⟨rfl, rfl⟩))
    (fun os started H enc _ => lifted5 os started H enc)

/-- ████ THE CARD ████ -/
theorem fnByNumberGraphIsAcyclic_card : Rows.FnByNumberGraphIsAcyclicCardSaid :=
  Claim7.holds_tied_plain_at .later [] [.data, .pinned] true Rows.fnByNumberGraphIsAcyclicCard.stood.harness false
    fnByNumberGraphIsAcyclic_holds (fun _ h => by cases h) (by kernel_rfl) (fun _ h => by cases h) fnByNumberGraphIsAcyclic_row_tie rfl ⟨rfl, rfl⟩ (by kernel_rfl) rfl
    (fun f fn hf hfn => by
      obtain rfl : f = 5 := Option.some.inj ((show Tryd.prog.funcNamed Rows.fnByNumberGraphIsAcyclicRow.func = some 5 by kernel_rfl).symm.trans hf) |>.symm
      obtain rfl : fn = Tryd.f5 := (Option.some.inj (Tryd.func5.symm.trans hfn)).symm
      exact ⟨by kernel_rfl, fun j t ht => by
        rw [Tryd.params5] at ht
        have hm : t ∈ [22, 22, 22] := by simpa using Array.mem_of_getElem? ht
        have hall : ([22, 22, 22].all fun u => !Tryd.prog.wantsStandIn u) = true := by kernel_rfl
        exact (show Tryd.prog.wantsStandIn t = false by simpa using List.all_eq_true.1 hall t hm)⟩)
    (by kernel_rfl)
end Go.Proofs.Qxb6600314aDoor
