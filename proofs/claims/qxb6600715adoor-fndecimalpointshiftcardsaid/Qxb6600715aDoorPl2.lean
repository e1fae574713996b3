/-
  Seat b6600715aD: plain laws: writing a number in decimal digits, and reading it again. By an AI agent (seat 043).
-/
import Derived.Lib.ParseIntB
set_option linter.unusedSimpArgs false
set_option linter.unusedVariables false
namespace Go.Proofs.Qxb6600715aDoor

/-- The digit's byte. -/
def dg (n : Nat) : UInt8 := UInt8.ofNat (48 + n % 10)
theorem dg_nat (n : Nat) : (dg n).toNat = 48 + n % 10 := by
  unfold dg
  rw [UInt8.toNat_ofNat', Nat.mod_eq_of_lt (by show 48 + n % 10 < 256; omega)]
/-- The decimal digits of u, f of them at most. -/
def digsF : Nat → Nat → List UInt8
  | 0, _ => []
  | f + 1, u => if u < 10 then [dg u] else digsF f (u / 10) ++ [dg u]
def digs (u : Nat) : List UInt8 := digsF (u + 1) u
theorem digsF_eq : ∀ (f u : Nat), u < f → digsF f u = digs u := by
  intro f
  induction f using Nat.strongRecOn with
  | ind f ih =>
    intro u hu
    match f, hu with
    | f + 1, hu =>
      unfold digs
      by_cases h : u < 10
      · simp [digsF, h]
      · simp only [digsF, h, if_false]
        rw [ih f (by omega) (u / 10) (by omega)]
        by_cases hf : u = f
        · subst hf
          rw [ih u (by omega) (u / 10) (by omega)]
        · rw [ih u (by omega) (u / 10) (by omega)]
theorem digs_small (u : Nat) (h : u < 10) : digs u = [dg u] := by simp [digs, digsF, h]
theorem digs_big (u : Nat) (h : ¬ u < 10) : digs u = digs (u / 10) ++ [dg u] := by
  conv => lhs; unfold digs
  simp only [digsF, h, if_false]
  rw [digsF_eq u (u / 10) (by omega)]

theorem digs_digit (u : Nat) : ∀ c ∈ digs u, 48 ≤ c.toNat ∧ c.toNat ≤ 57 := by
  induction u using Nat.strongRecOn with
  | ind u ih =>
    intro c hc
    by_cases h : u < 10
    · rw [digs_small u h] at hc
      simp only [List.mem_singleton] at hc
      subst hc
      rw [dg_nat]; omega
    · rw [digs_big u h, List.mem_append] at hc
      rcases hc with hc | hc
      · exact ih (u / 10) (by omega) c hc
      · simp only [List.mem_singleton] at hc
        subst hc
        rw [dg_nat]; omega
theorem digs_ne (u : Nat) : digs u ≠ [] := by
  by_cases h : u < 10
  · rw [digs_small u h]; simp
  · rw [digs_big u h]; simp
theorem parse_digs (M : Nat) : ∀ (u : Nat) (l : List UInt8), u ≤ M → u ≤ 9223372036854775808 → Lib.parseUintM M 0 (digs u ++ l) = Lib.parseUintM M u l := by
  intro u
  induction u using Nat.strongRecOn with
  | ind u ih =>
    intro l hM h63
    have hd := dg_nat u
    have step : ∀ acc, acc ≤ 922337203685477580 → acc * 10 + u % 10 ≤ M → Lib.parseUintM M acc (dg u :: l) = Lib.parseUintM M (acc * 10 + u % 10) l := by
      intro acc h1 h2
      conv => lhs; unfold Lib.parseUintM
      have e : (dg u).toNat - 48 = u % 10 := by omega
      rw [if_pos (by omega), if_neg (by omega), e, if_neg (by omega)]
    by_cases h : u < 10
    · rw [digs_small u h]
      have e : 0 * 10 + u % 10 = u := by omega
      have := step 0 (by omega) (by omega)
      rw [e] at this
      exact this
    · rw [digs_big u h, List.append_assoc, ih (u / 10) (by omega) _ (by omega) (by omega)]
      have e : u / 10 * 10 + u % 10 = u := by omega
      have := step (u / 10) (by omega) (by omega)
      rw [e] at this
      exact this

/-- zzItoa. -/
def itoa (v : Int) : List UInt8 := if v < 0 then 45 :: digs v.natAbs else digs v.natAbs
theorem itoa_plain (v : Int) : ∀ c ∈ itoa v, c ≠ 95 := by
  have hd : ∀ c ∈ digs v.natAbs, c ≠ 95 := fun c hc e => by
    have := digs_digit _ c hc
    subst e
    simp at this
  unfold itoa
  split
  · intro c hc
    rcases List.mem_cons.1 hc with rfl | hc
    · decide
    · exact hd c hc
  · exact hd
theorem parse_itoa (v : Int) (h1 : -4611686018427387904 ≤ v) (h2 : v ≤ 4611686018427387904) : Lib.parseIntB 64 (itoa v) = .ok v := by
  have hp := parse_digs (2 ^ 64 - 1) v.natAbs [] (by omega) (by omega)
  rw [List.append_nil] at hp
  have hp2 : Lib.parseUintM (2 ^ 64 - 1) 0 (digs v.natAbs) = .ok v.natAbs := by rw [hp]; rfl
  unfold itoa
  split
  · rename_i hneg
    unfold Lib.parseIntB Lib.parseUintB
    have e45 : (45 : UInt8).toNat = 45 := rfl
    simp only [e45, or_true, if_true]
    rw [if_neg (digs_ne _), hp2]
    simp only
    rw [if_neg (by simp), if_neg (by omega)]
    congr 1
    omega
  · rename_i hneg
    cases hd : digs v.natAbs with
    | nil => exact absurd hd (digs_ne _)
    | cons c r =>
      have hc := digs_digit v.natAbs c (by rw [hd]; simp)
      rw [hd] at hp2
      unfold Lib.parseIntB Lib.parseUintB
      simp only
      rw [if_neg (show ¬ (c.toNat = 43 ∨ c.toNat = 45) by omega), if_neg (by simp), hp2]
      simp only
      rw [if_neg (by omega), if_neg (by omega), if_neg (by omega)]
      congr 1
      omega

end Go.Proofs.Qxb6600715aDoor
