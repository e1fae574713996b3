/-
  Seat b6601221aD: FnSignificandMatchesModel: the row and the card. By an AI agent (seat 043).
-/
import Derived.Test.Qxb6601221aDoorW3
import Derived.Test.Qxb6601221aDoorTie
import Derived.Test.Qxb6601221aDoorCards
import Derived.ProofKit
import Derived.OpenShut
import Derived.Lay
import Derived.LaidLaws
import Derived.SevenTiedAt
set_option linter.unusedSimpArgs false
set_option linter.unusedVariables false
namespace Go.Proofs.Qxb6601221aDoor
open Go.ChangeShapes Go.WideShapes Go.ChangeAt Go.WideElems Go.RowKit

theorem own : ownKnob Tryd.prog.godebug = none := by kernel_rfl
theorem laidOut : laidOutB Tryd.prog = true := by kernel_rfl
theorem cells5 : Tryd.prog.cellsOf 5 = 1 := by kernel_rfl
theorem cells22 : Tryd.prog.cellsOf 22 = 1 := by kernel_rfl

set_option maxRecDepth 100000 in
/-- What a slice of bytes that came in gives the walks. -/
theorem view_bytes {H : Type} {enc : TypeId × Value → H} {W : World} {base : Nat} {v : Value} {d : DataW H} {p : List MemPlace} (hv : Value.okWide Tryd.prog W .any base 22 v) (h : DataW.Trod enc Tryd.prog W 0 (fun _ => true) true 22 v d p) :
    ∃ a n cap bs, v = .slice a n cap ∧ bs.length = n ∧ (a = none → n = 0 ∧ cap = 0) ∧ BAt W a bs := by
  obtain ⟨a0, len, cap, rfl⟩ := okWide_slice Tryd.underlying22 hv
  obtain ⟨fuel, hf⟩ := h
  rcases open_ints Tryd.underlying22 Tryd.underlying5 cells5 hf with ⟨hcs, hx⟩ | ⟨a, len', cap', zs, hcs, _, hl, hm, hz, hx, hcell, hwf⟩
  · simp [Value.cells] at hcs
    obtain ⟨rfl, rfl, rfl⟩ := hcs
    exact ⟨none, 0, 0, [], rfl, rfl, fun _ => ⟨rfl, rfl⟩, BAt.nil _ _⟩
  · simp [Value.cells] at hcs
    obtain ⟨rfl, rfl, rfl⟩ := hcs
    simp only [if_true] at hz
    refine ⟨some a, len, cap, (zs.take len).map (fun z => UInt8.ofNat z.toNat), rfl, by simp; omega, fun h => by simp at h, fun k b hk => ?_⟩
    rw [List.getElem?_map, List.getElem?_take] at hk
    split at hk
    · rename_i hkl
      have hkz : k < zs.length := by omega
      have hc := hcell k hkz
      have hc0 := hcell 0 (by omega)
      have hw := hwf (zs[k]) (List.getElem_mem hkz)
      obtain ⟨g, off, spot⟩ := a
      have hspot : spot = none := by simpa [Addr.add] using World.cell?_spot hc0
      subst hspot
      refine ⟨g, off, rfl, ?_⟩
      have ea : (⟨g, off, none⟩ : Addr).add k = ⟨g, off + k, none⟩ := by
        unfold Addr.add
        split
        · rename_i h0; simp [h0]
        · rfl
      rw [ea] at hc
      rw [hc]
      simp [List.getElem?_eq_getElem hkz] at hk
      subst hk
      have hr : 0 ≤ zs[k] ∧ zs[k] < 256 := by
        have h2 : IntKind.u8.min ≤ zs[k] ∧ zs[k] ≤ IntKind.u8.max := by simpa [Lit.wf] using hw
        have e1 : IntKind.u8.min = 0 := by decide
        have e2 : IntKind.u8.max = 255 := by decide
        omega
      simp [List.getD, hkz]
      omega
    · cases hk

set_option maxRecDepth 100000 in
theorem lifted3 (os : Os) (started : os.Started) (H : Type) (enc : TypeId × Value → H) :
    ReturnsInHanded {} Tryd.checked os 3 .any (fun w args => (Rows.fnSignificandMatchesModelSpec.pre enc Tryd.prog Tryd.f3 [] false w args ∧ laidMetH Tryd.prog Rows.fnSignificandMatchesModelRow.laid w) ∧ sizedMet enc Tryd.prog Tryd.f3 (OpenSpec.ofChange Rows.fnSignificandMatchesModelSpec) false w args)
      (Rows.fnSignificandMatchesModelSpec.post enc Tryd.prog Tryd.f3 false true false false) := by
  refine returnsInHanded_of_change_and (C := Tryd.checked) (X := fun w _ => laidMetH Tryd.prog Rows.fnSignificandMatchesModelRow.laid w) (fun _ _ _ hh h => h.of_heap hh) own started (by kernel_rfl) Tryd.func3
    (ChangeSpec.witness_shaped (enc := enc) (C := Tryd.checked) (os := os) (X := fun w _ => laidMetH Tryd.prog Rows.fnSignificandMatchesModelRow.laid w) false (World.laidAll Tryd.prog os Rows.fnSignificandMatchesModelRow.laid) #[.slice none 0 0, .slice none 0 0, .slice none 0 0] 8 (World.laidAll_os _ _ _)
      (World.shaped_of_ZipB (by kernel_rfl) (by kernel_rfl)) (by kernel_rfl) (by kernel_rfl) (by kernel_rfl)
      (by rw [MakeChecks.laidMetH_plain _ _ _ (by kernel_rfl)]; exact laidMet_laidAll _ (by kernel_rfl) (by kernel_rfl))) ?_
  intro W base args ds gs before hval0 hW _ _ _ _
  have hval : ∀ (j : Nat) t v, Tryd.f3.params[j]? = some t → args[j]? = some v → Value.okWide Tryd.prog W .any base t v := hval0
  have hW' := hW
  obtain ⟨p, q, hA0, hV, rfl, _, _⟩ := hW
  have hA : DataW.TrodAll enc Tryd.prog W 0 (fun _ => true) true Tryd.f3.params.toList args.toList ds p := hA0
  rw [Tryd.params3] at hA hval
  obtain ⟨v0, v1, v2, d0, d1, d2, p0, p1, p2, rfl, rfl, rfl, h0, h1, h2⟩ := trodAll_three hA
  obtain ⟨rfl, rfl⟩ := trodVars_none hV
  obtain ⟨a0, n0, c0, s0, rfl, l0, e0, g0⟩ := view_bytes (hval 0 22 v0 rfl rfl) h0
  obtain ⟨a1, n1, c1, s1, rfl, l1, e1, g1⟩ := view_bytes (hval 1 22 v1 rfl rfl) h1
  obtain ⟨a2, n2, c2, s2, rfl, l2, e2, g2⟩ := view_bytes (hval 2 22 v2 rfl rfl) h2
  simp only [List.append_nil] at hW'
  refine (lawSig a0 a1 a2 n0 n1 n2 c0 c1 c2 s0 s1 s2 W l0 l1 l2 (fun h => (e0 h).1) e1 e2 g0 g1 g2).mono fun e W' ⟨he, hb⟩ => ?_
  subst he
  have hlt : ∀ x ∈ p0 ++ p1 ++ p2, x.block < W.heap.size := fun x hx => hW'.lt x (by simpa using hx)
  have t0 := Below.trod laidOut (by kernel_rfl) (of_decide_eq_true (by kernel_rfl)) h0 hb (fun x hx => hlt x (by simp [hx]))
  have t1 := Below.trod laidOut (by kernel_rfl) (of_decide_eq_true (by kernel_rfl)) h1 hb (fun x hx => hlt x (by simp [hx]))
  have t2 := Below.trod laidOut (by kernel_rfl) (of_decide_eq_true (by kernel_rfl)) h2 hb (fun x hx => hlt x (by simp [hx]))
  exact ⟨_, rfl, _, _, _, [], p0 ++ (p1 ++ p2), [], hW', trodAll_mk1 (shut_bool Tryd.underlying4 _), trodAll_mk3 t0 t1 t2, rfl, hb.frame _, fun h => by cases h⟩

theorem fnSignificandMatchesModel_holds : Rows.FnSignificandMatchesModelSaid :=
  OpenClaim.holds_of_wide 3 Tryd.f3 rfl rfl rfl rfl rfl rfl rfl ⟨rfl, rfl, rfl, rfl, rfl⟩ rfl rfl rfl rfl rfl (by kernel_rfl) Tryd.func3 (by kernel_rfl)
    (of_decide_eq_true (by kernel_rfl)) (by unfold Func.isWrapper; first | (rw [if_pos (by decide +kernel)]; kernel_rfl) | (rw [if_neg (by decide +kernel)]; exact ⟨rfl, rfl⟩))
    (fun os started H enc _ => lifted3 os started H enc)

/-- The card. -/
theorem fnSignificandMatchesModel_card : Rows.FnSignificandMatchesModelCardSaid :=
  Claim7.holds_tied_plain_at .later [] [.data, .data, .data, .data, .sentinel, .sentinel, .pinned] true Rows.fnSignificandMatchesModelCard.stood.harness true
    fnSignificandMatchesModel_holds (fun _ h => by cases h) (by kernel_rfl) (fun _ h => by cases h) fnSignificandMatchesModel_row_tie rfl ⟨rfl, rfl⟩ (by kernel_rfl) rfl
    (fun f fn hf hfn => by
      obtain rfl : f = 3 := Option.some.inj ((show Tryd.prog.funcNamed Rows.fnSignificandMatchesModelRow.func = some 3 by kernel_rfl).symm.trans hf) |>.symm
      obtain rfl : fn = Tryd.f3 := (Option.some.inj (Tryd.func3.symm.trans hfn)).symm
      exact ⟨by kernel_rfl, fun j t ht => by
        rw [Tryd.params3] at ht
        have hm : t ∈ [22, 22, 22] := by simpa using Array.mem_of_getElem? ht
        have hall : ([22, 22, 22].all fun u => !Tryd.prog.wantsStandIn u) = true := by kernel_rfl
        exact (show Tryd.prog.wantsStandIn t = false by simpa using List.all_eq_true.1 hall t hm)⟩)
    (by kernel_rfl)
end Go.Proofs.Qxb6601221aDoor
