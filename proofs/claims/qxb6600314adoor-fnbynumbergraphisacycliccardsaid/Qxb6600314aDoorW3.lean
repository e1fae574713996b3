/-
  Seat b6600314aD: the keys: withoutLeadingZeros, Canonical, phaseKey, trackKey, groupKey. By an AI agent (seat 043).
-/
import Derived.Test.Qxb6600314aDoorW2
import Derived.Test.Qxb6600314aDoorShelf
namespace Go.Proofs.Qxb6600314aDoor
open Go.RowKit

/-- What withoutLeadingZeros gives. -/
def canon (s : ByteArray) : ByteArray := if Lib.trimLeftB s.data.toList 48 = [] then ⟨#[48]⟩ else ⟨(Lib.trimLeftB s.data.toList 48).toArray⟩

set_option maxHeartbeats 400000 in
theorem without_any (s : ByteArray) (w : World) :
    Calls Tryd.prog 28 #[.string s] w fun e w' => e = .returned (.string (canon s)) ∧ w' = w := by
  by_cases h : Lib.trimLeftB s.data.toList 48 = []
  · have hc : canon s = ⟨#[48]⟩ := by simp [canon, h]
    rw [hc]
    go_enter Tryd.func28, Tryd.ntmps28
    go_wp2_with fail
    refine (Tryd.strings_TrimLeft_one s 48 (by decide) w).mono ?_
    rintro e w' ⟨rfl, rfl⟩
    rw [h]
    go_wp2
    go_ret
    exact ⟨rfl, rfl⟩
  · have hc : canon s = ⟨(Lib.trimLeftB s.data.toList 48).toArray⟩ := by simp [canon, h]
    rw [hc]
    have h2 : (Lib.trimLeftB s.data.toList 48).isEmpty = false := by simpa using h
    clear hc
    go_enter Tryd.func28, Tryd.ntmps28
    go_wp2_with fail
    refine (Tryd.strings_TrimLeft_one s 48 (by decide) w).mono ?_
    rintro e w' ⟨rfl, rfl⟩
    go_wp2
    go_ret
    exact ⟨rfl, rfl⟩

abbrev idV (p l s t : ByteArray) : Value := .agg #[.string p, .string l, .string s, .string t]

set_option maxHeartbeats 400000 in
theorem canonical_any (p l s t : ByteArray) (w : World) :
    Calls Tryd.prog 27 #[idV p l s t] w fun e w' => e = .returned (idV (canon p) l (canon s) t) ∧ Below w.heap.size w w' := by
  go_enter Tryd.func27, Tryd.ntmps27
  go_wp2_with fail
  refine (without_any p _).mono ?_
  rintro e w' ⟨rfl, rfl⟩
  go_wp2_with fail
  refine (without_any s _).mono ?_
  rintro e w' ⟨rfl, rfl⟩
  go_wp2
  go_returns
  exact ⟨rfl, by go_grown⟩

theorem field39_0 (p l s t : ByteArray) (w : World) : (Instr.field 39 (.agg #[.string p, .string l, .string s, .string t]) 0).run Tryd.prog w = .ok (.string p) w := by kernel_rfl
theorem field39_2 (p l s t : ByteArray) (w : World) : (Instr.field 39 (.agg #[.string p, .string l, .string s, .string t]) 2).run Tryd.prog w = .ok (.string s) w := by kernel_rfl

set_option maxHeartbeats 400000 in
theorem phaseKey_any (p l s t : ByteArray) (w : World) :
    Calls Tryd.prog 22 #[idV p l s t] w fun e w' => e = .returned (.string (canon p)) ∧ Below w.heap.size w w' := by
  have hf := field39_0
  go_enter Tryd.func22, Tryd.ntmps22
  go_wp2_with fail
  refine (canonical_any p l s t _).mono ?_
  rintro e w' ⟨rfl, hb⟩
  go_wp2
  go_ret
  exact ⟨rfl, ((Below.refl _ _).alloc (Nat.le_refl _) _).trans (hb.mono (by simp))⟩

set_option maxHeartbeats 400000 in
theorem groupKey_any (p l s t : ByteArray) (w : World) :
    Calls Tryd.prog 24 #[idV p l s t] w fun e w' => e = .returned (.string (canon s)) ∧ Below w.heap.size w w' := by
  have hf := field39_2
  go_enter Tryd.func24, Tryd.ntmps24
  go_wp2_with fail
  refine (canonical_any p l s t _).mono ?_
  rintro e w' ⟨rfl, hb⟩
  go_wp2
  go_ret
  exact ⟨rfl, ((Below.refl _ _).alloc (Nat.le_refl _) _).trans (hb.mono (by simp))⟩

set_option maxHeartbeats 400000 in
theorem trackKey_any (p l s t : ByteArray) (w : World) :
    Calls Tryd.prog 23 #[idV p l s t] w fun e w' => e = .returned (.string l) ∧ Below w.heap.size w w' := by
  go_enter Tryd.func23, Tryd.ntmps23
  go_wp2
  go_ret
  exact ⟨rfl, by go_grown⟩

end Go.Proofs.Qxb6600314aDoor
