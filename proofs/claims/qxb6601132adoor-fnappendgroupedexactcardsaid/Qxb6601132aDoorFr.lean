/-
  Seat b6601132aD: the frame of the three rows. By an AI agent (seat 043).
-/
import Derived.Test.Qxb6601132aDoorWL
import Derived.Test.Qxb6601132aDoorTie
import Derived.Test.Qxb6601132aDoorCards
import Derived.ProofKit
import Derived.OpenShut
import Derived.Lay
import Derived.LaidLaws
import Derived.SevenTiedAt
import Derived.ChangeMaps5
set_option linter.unusedSimpArgs false
set_option linter.unusedVariables false
namespace Go.Proofs.Qxb6601132aDoor
open Go.ChangeShapes Go.WideShapes Go.ChangeAt Go.WideElems Go.RowKit
open Go.ChangeMaps (open_string)

theorem own : ownKnob Tryd.prog.godebug = none := by kernel_rfl
theorem laidOut : laidOutB Tryd.prog = true := by kernel_rfl
theorem cells5 : Tryd.prog.cellsOf 5 = 1 := by kernel_rfl
theorem cells22 : Tryd.prog.cellsOf 22 = 1 := by kernel_rfl

set_option maxRecDepth 100000 in
/-- What a slice of bytes that came in gives the walks. -/
theorem view_bytes {H : Type} {enc : TypeId × Value → H} {W : World} {base : Nat} {v : Value} {d : DataW H} {p : List MemPlace} (hv : Value.okWide Tryd.prog W .any base 22 v) (h : DataW.Trod enc Tryd.prog W 0 (fun _ => true) true 22 v d p) :
    ∃ a n cap bs, v = .slice a n cap ∧ bs.length = n ∧ (a = none → n = 0) ∧ BAt W a bs := by
  obtain ⟨a0, len, cap, rfl⟩ := okWide_slice Tryd.underlying22 hv
  obtain ⟨fuel, hf⟩ := h
  rcases open_ints Tryd.underlying22 Tryd.underlying5 cells5 hf with ⟨hcs, hx⟩ | ⟨a, len', cap', zs, hcs, _, hl, hm, hz, hx, hcell, hwf⟩
  · simp [Value.cells] at hcs
    obtain ⟨rfl, rfl, rfl⟩ := hcs
    exact ⟨none, 0, 0, [], rfl, rfl, fun _ => rfl, BAt.nil _ _⟩
  · simp [Value.cells] at hcs
    obtain ⟨rfl, rfl, rfl⟩ := hcs
    simp only [if_true] at hz
    refine ⟨some a, len, cap, (zs.take len).map (fun z => UInt8.ofNat z.toNat), rfl, by simp; omega, fun h => by simp at h, fun k b hk => ?_⟩
    rw [List.getElem?_map, List.getElem?_take] at hk
    split at hk
    · rename_i hkl
      have hkz : k < zs.length := by omega
      have hc := hcell k hkz
      have hc0 := hcell 0 (by omega)
      have hw := hwf (zs[k]) (List.getElem_mem hkz)
      obtain ⟨g, off, spot⟩ := a
      have hspot : spot = none := by simpa [Addr.add] using World.cell?_spot hc0
      subst hspot
      refine ⟨g, off, rfl, ?_⟩
      have ea : (⟨g, off, none⟩ : Addr).add k = ⟨g, off + k, none⟩ := by
        unfold Addr.add
        split
        · rename_i h0; simp [h0]
        · rfl
      rw [ea] at hc
      rw [hc]
      simp [List.getElem?_eq_getElem hkz] at hk
      subst hk
      have hr : 0 ≤ zs[k] ∧ zs[k] < 256 := by
        have h2 : IntKind.u8.min ≤ zs[k] ∧ zs[k] ≤ IntKind.u8.max := by simpa [Lit.wf] using hw
        have e1 : IntKind.u8.min = 0 := by decide
        have e2 : IntKind.u8.max = 255 := by decide
        omega
      simp [List.getD, hkz]
      omega
    · cases hk

/-- What the world's shape gives: the library's variable holds some number. -/
theorem maxLen_of {w : World} (h : w.ShapedOpen Tryd.prog) : ∃ m, w.cell? ⟨0, 0, none⟩ = some (.int .i64 m) := Tryd.laysM145.s1_3 w h

/-- The row's wrap for this program: the listed variables and the world's shape are both handed on. -/
theorem wrapped {H : Type} {enc : TypeId × Value → H} {os : Os} {f : FuncId} {fn : Func} {s : ChangeSpec} {X : World → Array Value → Prop}
    (hX : ∀ (w w' : World) (args : Array Value), w.heap = w'.heap → X w args → X w' args)
    (started : os.Started) (noInit : Tryd.prog.inits.idxOf? f = none) (hfn : Tryd.prog.funcs[f]? = some fn)
    (witness : ∃ (w : World) (tape : Tape) (i : Input), w.os = os ∧ (w.forCall tape i).Shaped Tryd.prog ∧ i.vars = [] ∧ Input.okWide Tryd.prog (w.forCall tape i) .any w.heap.size f i ∧
      ((s.pre enc Tryd.prog fn [] false (w.forCall tape i).memory i.args ∧ X (w.forCall tape i).memory i.args) ∧ sizedMet enc Tryd.prog fn (OpenSpec.ofChange s) false (w.forCall tape i).memory i.args) ∧ ({} : Assume).holds Tryd.prog (lone (Frame.enter Tryd.prog f i.args .normal) [] (w.forCall tape i)))
    (contract : ∀ (W : World) (base : Nat) (args : Array Value) (ds gs : List (DataW H)) (before : List MemPlace),
      (∀ (j : Nat) t v, fn.params[j]? = some t → args[j]? = some v → Value.okWide Tryd.prog W .any base t v) →
      DataW.Whole enc Tryd.prog fn.params.toList s.vars false W args.toList ds gs before → X W args → W.ShapedOpen Tryd.prog →
      Calls Tryd.prog f args W fun e W' => ∃ v, e = .returned v ∧ s.post enc Tryd.prog fn false true false false W args v W') :
    ReturnsInHanded {} Tryd.checked os f .any (fun w args => (s.pre enc Tryd.prog fn [] false w args ∧ X w args) ∧ sizedMet enc Tryd.prog fn (OpenSpec.ofChange s) false w args) (s.post enc Tryd.prog fn false true false false) := by
  refine returnsInHanded_of_calls (C := Tryd.checked) own started noInit witness ?_
  intro w tape i _ hsh _ hok hpre _
  obtain ⟨_, _, _, fn', hfn', _, _, _, _, hval⟩ := hok
  obtain rfl : fn' = fn := Option.some.inj (hfn'.symm.trans hfn)
  obtain ⟨⟨⟨ds, gs, before, hw, _⟩, hx⟩, _⟩ := hpre
  refine (contract (w.forCall tape i) w.heap.size i.args ds gs before hval (DataW.Whole.of_heap (w' := w.forCall tape i) (by rfl) hw) (hX _ _ _ (by rfl) hx) hsh).mono fun e W' ⟨v, he, hp⟩ => ?_
  subst he
  exact ChangeSpec.post_blind hp

end Go.Proofs.Qxb6601132aDoor
