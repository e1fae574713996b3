/-
  Seat b6601221aD: plain laws: zeros at both ends; what the law's model wants. By an AI agent (seat 043).
-/
import Derived.Test.Qxb6601221aDoorW2
set_option linter.unusedSimpArgs false
set_option linter.unusedVariables false
namespace Go.Proofs.Qxb6601221aDoor

theorem dw_app {p : UInt8 → Bool} : ∀ (x y : List UInt8), (x ++ y).dropWhile p = if x.dropWhile p = [] then y.dropWhile p else x.dropWhile p ++ y
  | [], y => by simp
  | c :: x, y => by
    rw [List.cons_append, List.dropWhile_cons, List.dropWhile_cons]
    by_cases h : p c = true
    · rw [if_pos h, if_pos h]
      exact dw_app x y
    · rw [if_neg h, if_neg h, if_neg (by simp)]
      rfl
theorem lz_app (x y : List UInt8) : lz (x ++ y) = if lz x = [] then lz y else lz x ++ y := dw_app x y
theorem rz_app (x y : List UInt8) : rz (x ++ y) = if rz y = [] then rz x else x ++ rz y := by
  unfold rz
  rw [List.reverse_append, dw_app]
  by_cases h : y.reverse.dropWhile (· == 48) = []
  · rw [if_pos h, if_pos (by rw [h]; rfl)]
  · rw [if_neg h, if_neg (by simpa using h), List.reverse_append, List.reverse_reverse]
theorem dw_head {p : UInt8 → Bool} : ∀ (l : List UInt8) (x : UInt8) (r : List UInt8), l.dropWhile p = x :: r → p x = false
  | [], x, r, h => by simp at h
  | y :: l, x, r, h => by
    rw [List.dropWhile_cons] at h
    split at h
    · exact dw_head l x r h
    · rename_i hy
      cases h
      simpa using hy
theorem tw_all {p : UInt8 → Bool} : ∀ (l : List UInt8) (c : UInt8), c ∈ l.takeWhile p → p c = true
  | [], c, h => by simp at h
  | x :: l, c, h => by
    rw [List.takeWhile_cons] at h
    split at h
    · rcases List.mem_cons.1 h with rfl | h
      · assumption
      · exact tw_all l c h
    · cases h
theorem dw_nil_of {p : UInt8 → Bool} : ∀ (l : List UInt8), (∀ c ∈ l, p c = true) → l.dropWhile p = []
  | [], _ => rfl
  | x :: l, h => by
    rw [List.dropWhile_cons, if_pos (h x (by simp))]
    exact dw_nil_of l (fun c hc => h c (by simp [hc]))
theorem lz_zeros (z : List UInt8) (h : ∀ c ∈ z, c = 48) : lz z = [] := dw_nil_of z (fun c hc => by rw [h c hc]; rfl)
theorem rz_zeros (z : List UInt8) (h : ∀ c ∈ z, c = 48) : rz z = [] := by
  unfold rz
  rw [dw_nil_of _ (fun c hc => by rw [h c (by simpa using hc)]; rfl)]
  rfl
/-- A list that begins with no zero. -/
theorem lz_ne (c : UInt8) (r : List UInt8) (h : c ≠ 48) : lz (c :: r) = c :: r := by
  unfold lz
  rw [List.dropWhile_cons, if_neg (by simpa using h)]
theorem rz_cons_ne (c : UInt8) (r : List UInt8) (h : c ≠ 48) : ∃ r', rz (c :: r) = c :: r' := by
  have := rz_app [c] r
  rw [List.singleton_append] at this
  rw [this]
  split
  · refine ⟨[], ?_⟩
    unfold rz
    simp [h]
  · exact ⟨rz r, rfl⟩
theorem lz_split (l : List UInt8) : ∃ z, l = z ++ lz l ∧ (∀ c ∈ z, c = 48) := by
  refine ⟨l.takeWhile (· == 48), List.takeWhile_append_dropWhile.symm, fun c hc => ?_⟩
  have := tw_all l c hc
  simpa using this
theorem lz_shape (l : List UInt8) : lz l = [] ∨ ∃ c r, lz l = c :: r ∧ c ≠ 48 := by
  cases h : lz l with
  | nil => exact .inl rfl
  | cons c r =>
    have := dw_head l c r h
    exact .inr ⟨c, r, rfl, by simpa using this⟩
/-- Both ends, in either order; how far the first digit lies in. -/
theorem ends (l : List UInt8) : lz (rz l) = rz (lz l) ∧ (rz (lz l) = [] → rz l = []) ∧ (rz (lz l) ≠ [] → ((lz (rz l)).length : Int) - ((rz l).length : Int) = ((lz l).length : Int) - (l.length : Int)) := by
  obtain ⟨z, hl, hz⟩ := lz_split l
  rcases lz_shape l with h0 | ⟨c, r, hc, h48⟩
  · rw [h0, List.append_nil] at hl
    have e1 : rz l = [] := by rw [hl]; exact rz_zeros z hz
    have e2 : rz (lz l) = [] := by rw [h0]; rfl
    rw [e1, e2]
    exact ⟨rfl, fun _ => rfl, fun h => absurd rfl h⟩
  · obtain ⟨r', hr'⟩ := rz_cons_ne c r h48
    have e1 : rz (lz l) = c :: r' := by rw [hc]; exact hr'
    have e2 : rz l = z ++ (c :: r') := by
      conv => lhs; rw [hl]
      rw [rz_app, e1, if_neg (by simp)]
    have e3 : lz (rz l) = c :: r' := by
      rw [e2, lz_app, lz_zeros z hz, if_pos rfl, lz_ne c r' h48]
    refine ⟨by rw [e1, e3], (fun h => by rw [e1] at h; cases h), fun _ => ?_⟩
    rw [e3, e2]
    have : l.length = z.length + (lz l).length := by
      conv => lhs; rw [hl]
      rw [List.length_append]
    rw [List.length_append]
    omega

/-- The significant digits of the whole text. -/
def sg (wh fr : List UInt8) : List UInt8 := rz (lz (wh ++ fr))
def leadZ (wh fr : List UInt8) : Nat := (wh ++ fr).length - (lz (wh ++ fr)).length
def wantHi (wh fr : List UInt8) : List UInt8 := if ¬ wh = [48] ∧ wh.length < (sg wh fr).length then (sg wh fr).take wh.length else sg wh fr
def wantLo (wh fr : List UInt8) : List UInt8 := if ¬ wh = [48] ∧ wh.length < (sg wh fr).length then (sg wh fr).drop wh.length else []
def wantN (wh fr : List UInt8) : Int := if sg wh fr = [] then 0 else (wh.length : Int) - (leadZ wh fr : Int)

theorem model (wh fr : List UInt8) (h : wh = [48] ∨ ∃ c r, wh = c :: r ∧ c ≠ 48) : sigHi wh fr = wantHi wh fr ∧ sigLo wh fr = wantLo wh fr ∧ sigN wh fr = wantN wh fr := by
  by_cases h48 : wh = [48]
  · obtain ⟨h1, h2, h3⟩ := ends fr
    have e0 : lz (wh ++ fr) = lz fr := by
      rw [h48, lz_app]
      have : lz [48] = [] := rfl
      rw [if_pos this]
    have es : sg wh fr = rz (lz fr) := by unfold sg; rw [e0]
    refine ⟨?_, ?_, ?_⟩
    · unfold sigHi wantHi
      rw [if_pos h48, if_neg (fun h => h.1 h48), es, h1]
    · unfold sigLo wantLo
      rw [if_pos h48, if_neg (fun h => h.1 h48)]
    · unfold sigN wantN leadZ
      rw [if_pos h48, es, e0]
      by_cases hs : rz (lz fr) = []
      · rw [if_pos hs, h1, hs, h2 hs]
        rfl
      · rw [if_neg hs, h3 hs]
        have hl := lz_len fr
        rw [List.length_append, h48]
        simp only [List.length_singleton]
        omega
  · obtain ⟨c, r, hw, hc⟩ : ∃ c r, wh = c :: r ∧ c ≠ 48 := by
      rcases h with h | h
      · exact absurd h h48
      · exact h
    have elz : lz (wh ++ fr) = wh ++ fr := by rw [hw]; exact lz_ne c (r ++ fr) hc
    have es : sg wh fr = if rz fr = [] then rz wh else wh ++ rz fr := by unfold sg; rw [elz, rz_app]
    have hlw := rz_len wh
    have hz : leadZ wh fr = 0 := by unfold leadZ; rw [elz]; omega
    obtain ⟨r', hr'⟩ := rz_cons_ne c r hc
    by_cases hF : rz fr = []
    · rw [if_pos hF] at es
      have hnl : ¬ wh.length < (sg wh fr).length := by rw [es]; omega
      refine ⟨?_, ?_, ?_⟩
      · unfold sigHi wantHi
        rw [if_neg h48, if_pos hF, if_neg (fun h => hnl h.2), es]
      · unfold sigLo wantLo
        rw [if_neg h48, if_neg (fun h => hnl h.2), hF]
      · unfold sigN wantN
        rw [if_neg h48, hz, es, hw, hr', if_neg (by simp)]
        simp
    · rw [if_neg hF] at es
      have hp := List.length_pos_iff.2 hF
      have hlt : wh.length < (sg wh fr).length := by rw [es, List.length_append]; omega
      refine ⟨?_, ?_, ?_⟩
      · unfold sigHi wantHi
        rw [if_neg h48, if_neg hF, if_pos ⟨h48, hlt⟩, es, List.take_left]
      · unfold sigLo wantLo
        rw [if_neg h48, if_pos ⟨h48, hlt⟩, es, List.drop_left]
      · unfold sigN wantN
        have hne : ¬ sg wh fr = [] := by intro h; rw [h] at hlt; simp at hlt
        rw [if_neg h48, if_neg hne, hz]
        simp

end Go.Proofs.Qxb6601221aDoor
