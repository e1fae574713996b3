/-
  Seat b6600715aD: plain laws: reading an exponent. By an AI agent (seat 043).
-/
import Derived.Test.Qxb6600715aDoorW1
import Derived.Lib.ParseIntB
set_option linter.unusedSimpArgs false
set_option linter.unusedVariables false
namespace Go.Proofs.Qxb6600715aDoor

/-- zzParseExponent from a state on. -/
def pe (seen ng : Bool) (d : Nat) (big : Bool) (v : Nat) : List UInt8 → Option Int
  | [] => if d = 0 ∨ big = true then none else some (if ng then -(v : Int) else v)
  | c :: r =>
    if c = 95 then pe seen ng d big v r
    else if seen = false ∧ (c = 43 ∨ c = 45) then pe true (decide (c = 45)) d big v r
    else if c.toNat < 48 ∨ 57 < c.toNat then none
    else if big = true then pe true ng (d + 1) true v r
    else if (4611686018427387904 - (c.toNat - 48)) / 10 < v then pe true ng (d + 1) true v r
    else pe true ng (d + 1) false (v * 10 + (c.toNat - 48)) r

theorem pe_strip (l : List UInt8) : ∀ (s ng : Bool) (d : Nat) (big : Bool) (v : Nat), pe s ng d big v (strip l) = pe s ng d big v l := by
  induction l with
  | nil => intros; rfl
  | cons c r ih =>
    intro s ng d big v
    by_cases h : c = 95
    · subst h
      show pe s ng d big v (strip r) = _
      rw [ih]
      simp [pe]
    · have e : strip (c :: r) = c :: strip r := by simp [strip, h]
      rw [e]
      simp only [pe, h, if_false, ih]

theorem pe_big (l : List UInt8) : ∀ (s ng : Bool) (d v : Nat), pe s ng d true v l = none := by
  induction l with
  | nil => intros; simp [pe]
  | cons c r ih =>
    intro s ng d v
    simp only [pe, ih, if_true]
    simp

theorem parse_mono (M : Nat) (l : List UInt8) : ∀ (acc u : Nat), Lib.parseUintM M acc l = .ok u → acc ≤ u := by
  induction l with
  | nil => intro acc u h; simp [Lib.parseUintM] at h; omega
  | cons c r ih =>
    intro acc u h
    unfold Lib.parseUintM at h
    split at h
    · split at h
      · cases h
      · split at h
        · cases h
        · have := ih _ _ h
          omega
    · cases h

theorem pe_digits (l : List UInt8) : ∀ (ng : Bool) (d v : Nat), (∀ c ∈ l, c ≠ 95) → v ≤ 4611686018427387904 →
    pe true ng d false v l = match Lib.parseUintM (2 ^ 64 - 1) v l with
      | .ok u => if u ≤ 4611686018427387904 ∧ d + l.length ≠ 0 then some (if ng then -(u : Int) else u) else none
      | _ => none := by
  induction l with
  | nil =>
    intro ng d v _ hv
    by_cases hd : d = 0 <;> simp [pe, Lib.parseUintM, hv, hd]
  | cons c r ih =>
    intro ng d v h95 hv
    have hc : c ≠ 95 := h95 c (by simp)
    have hr : ∀ x ∈ r, x ≠ 95 := fun x hx => h95 x (by simp [hx])
    unfold pe Lib.parseUintM
    simp only [hc, if_false]
    rw [if_neg (by simp)]
    by_cases hdig : 48 ≤ c.toNat ∧ c.toNat ≤ 57
    · rw [if_neg (by omega), if_pos hdig, if_neg (by simp)]
      by_cases hbig : (4611686018427387904 - (c.toNat - 48)) / 10 < v
      · rw [if_pos hbig, pe_big]
        split
        · rename_i u hu
          split at hu
          · cases hu
          · split at hu
            · cases hu
            · have := parse_mono _ _ _ _ hu
              rw [if_neg]
              omega
        · rfl
      · rw [if_neg hbig, ih ng (d + 1) _ hr (by omega), if_neg (by omega), if_neg (by omega)]
        have e : d + 1 + r.length = d + (c :: r).length := by simp; omega
        rw [e]
    · rw [if_pos (by omega), if_neg hdig]

/-- zzParseExponent. -/
def peTop (l : List UInt8) : Option Int := pe false false 0 false 0 l
/-- What ParseInt says, held to the limit. -/
def expOf (l : List UInt8) : Option Int :=
  match Lib.parseIntB 64 l with
  | .ok v => if -4611686018427387904 ≤ v ∧ v ≤ 4611686018427387904 then some v else none
  | _ => none

theorem pe_parse (x : List UInt8) : peTop x = expOf (strip x) := by
  unfold peTop
  rw [← pe_strip]
  have h95 : ∀ c ∈ strip x, c ≠ 95 := fun c hc => by
    simp only [strip, List.mem_filter] at hc
    simpa using hc.2
  generalize strip x = l at h95
  unfold expOf Lib.parseIntB
  cases l with
  | nil => simp [pe]
  | cons c r =>
    have hc : c ≠ 95 := h95 c (by simp)
    have hr : ∀ y ∈ r, y ≠ 95 := fun y hy => h95 y (by simp [hy])
    have e43 : c.toNat = 43 ↔ c = 43 := by rw [← UInt8.toNat_inj]; rfl
    have e45 : c.toNat = 45 ↔ c = 45 := by rw [← UInt8.toNat_inj]; rfl
    by_cases hs : c = 43 ∨ c = 45
    · have hp : pe false false 0 false 0 (c :: r) = pe true (decide (c = 45)) 0 false 0 r := by
        conv => lhs; unfold pe
        rw [if_neg hc, if_pos ⟨rfl, hs⟩]
      rw [hp, pe_digits r _ 0 0 hr (by omega)]
      simp only [e43, e45, hs, if_true]
      unfold Lib.parseUintB
      cases r with
      | nil => simp [Lib.parseUintM]
      | cons y r' =>
        rw [if_neg (by simp)]
        cases hu : Lib.parseUintM (2 ^ 64 - 1) 0 (y :: r') with
        | ok u =>
          simp only
          by_cases h45 : c = 45
          · simp only [h45]
            by_cases hb : u ≤ 4611686018427387904
            · simp [hb]
              rw [if_neg (by omega)]
              simp
              omega
            · simp [hb]
              split
              · rename_i v hv
                split at hv
                · cases hv
                · cases hv
                  rw [if_neg]
                  omega
              · rfl
          · simp only [h45]
            by_cases hb : u ≤ 4611686018427387904
            · simp [hb]
              rw [if_neg (by omega)]
              simp
              omega
            · simp [hb]
              split
              · rename_i v hv
                split at hv
                · cases hv
                · cases hv
                  rw [if_neg]
                  omega
              · rfl
        | range => simp
        | «syntax» => simp
    · have hp : pe false false 0 false 0 (c :: r) = pe true false 0 false 0 (c :: r) := by
        conv => lhs; unfold pe
        conv => rhs; unfold pe
        rw [if_neg hc, if_neg hc, if_neg (show ¬ (false = false ∧ (c = 43 ∨ c = 45)) from fun h => hs h.2), if_neg (show ¬ (true = false ∧ (c = 43 ∨ c = 45)) from fun h => by cases h.1)]
      have h45 : ¬ c = 45 := fun h => hs (.inr h)
      rw [hp, pe_digits (c :: r) _ 0 0 h95 (by omega)]
      simp only [e43, e45, hs, if_false]
      unfold Lib.parseUintB
      rw [if_neg (by simp)]
      cases hu : Lib.parseUintM (2 ^ 64 - 1) 0 (c :: r) with
      | ok u =>
        simp only [h45]
        by_cases hb : u ≤ 4611686018427387904
        · simp [hb]
          rw [if_neg (by omega)]
          simp
          omega
        · simp [hb]
          split
          · rename_i v hv
            split at hv
            · cases hv
            · cases hv
              rw [if_neg]
              omega
          · rfl
      | range => simp
      | «syntax» => simp

end Go.Proofs.Qxb6600715aDoor
