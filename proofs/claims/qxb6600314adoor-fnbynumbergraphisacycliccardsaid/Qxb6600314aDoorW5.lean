/-
  Seat b6600314aD: slices.Clone at whatever slice of ints; sprintsOf. By an AI agent (seat 043).
-/
import Derived.Test.Qxb6600314aDoorW4
import Derived.Maps.AppendAt
set_option linter.unusedSimpArgs false
set_option linter.unusedVariables false
namespace Go.Proofs.Qxb6600314aDoor
open Go.RowKit

/-- A slice of ints that reads as zs. -/
def IntRes (X : List Nat) (w : World) (zs : List Nat) (e : Ending) (w' : World) : Prop :=
  ∃ a cap, e = .returned (.slice a zs.length cap) ∧ zs.length ≤ cap ∧ Sees w' X a (ints zs) ∧ Below w.heap.size w w'

theorem ints_eq (zs : List Nat) : ints zs = (zs.map (fun z : Nat => (z : Int))).map (Value.int .i64) := by simp [ints]

theorem clone_any (X : List Nat) (a : Option Addr) (cap : Nat) (zs : List Nat) (w : World) (hl : zs.length ≤ 1024 * 1024) (hX : ∀ x ∈ X, x < w.heap.size) (hs : Sees w X a (ints zs)) :
    Calls Tryd.prog 25 #[.slice a zs.length cap] w fun e w' => IntRes X w zs e w' := by
  have own : ∀ (v' : Value) (w' : World), w'.ownsRow w.heap.size 3 1 v' zs.length (ints zs) → Below w.heap.size w w' → IntRes X w zs (.returned v') w' := by
    intro v' w' h hb
    obtain ⟨a', cap', rfl, hc, hsee⟩ := Sees.of_owns (X := X) h (fun k hk hx => by have := (h.lt k hk).1; have := hX k hx; omega)
    exact ⟨a', cap', rfl, hc, hsee, hb⟩
  match zs, a, hs with
  | [], none, _ =>
    refine (Tryd.slices_Clone_int_nil 0 cap w).mono ?_
    rintro e w' ⟨rfl, rfl⟩
    exact ⟨none, 0, rfl, Nat.le_refl _, Sees.nil _ _ _, Below.refl _ _⟩
  | [], some ad, _ =>
    refine (Tryd.slices_Clone_int_zero ad cap w).mono ?_
    rintro e w' ⟨v', rfl, h, _, hb⟩
    exact own v' w' h hb
  | z :: zs, a, hs =>
    obtain ⟨b, off, ha, _, _⟩ := hs 0 (.int .i64 (z : Int)) (ints_get rfl)
    subst ha
    refine (Tryd.slices_Clone_int b off (z :: zs).length cap ((z :: zs).map (fun z : Nat => (z : Int))) w (by simp) (by omega) ?_).mono ?_
    · intro j hj
      obtain ⟨b', off', ha', _, hc⟩ := hs j (.int .i64 (((z :: zs).getD j 0 : Nat) : Int)) (ints_get (by
        rw [List.getD_eq_getElem?_getD, List.getElem?_eq_getElem (by simpa using hj)]; rfl))
      cases ha'
      rw [hc]
      congr 2
      rw [List.getD_eq_getElem?_getD, List.getD_eq_getElem?_getD, List.getElem?_map, List.getElem?_eq_getElem (by simpa using hj)]
      simp
    · rintro e w' ⟨v', rfl, h, _, hb⟩
      rw [List.take_of_length_le (by simp), ← ints_eq] at h
      exact own v' w' h hb

end Go.Proofs.Qxb6600314aDoor
