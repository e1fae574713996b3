/-
  Seat b6600314aD: the run model's plain functions. By an AI agent (seat 043).
-/
set_option linter.unusedSimpArgs false
set_option linter.unusedVariables false
namespace Go.Proofs.Qxb6600314aDoor

/-- How many of f 1 .. f i are true. -/
def cnt (f : Nat → Bool) : Nat → Nat
  | 0 => 0
  | i + 1 => cnt f i + (if f (i + 1) then 1 else 0)
theorem cnt_le (f : Nat → Bool) : ∀ i, cnt f i ≤ i
  | 0 => Nat.le_refl _
  | i + 1 => by
    have := cnt_le f i
    unfold cnt
    split <;> omega
theorem cnt_yes (f : Nat → Bool) (k : Nat) (hk : 1 ≤ k) (h : f k = true) : cnt f k = cnt f (k - 1) + 1 := by
  obtain ⟨j, rfl⟩ : ∃ j, k = j + 1 := ⟨k - 1, by omega⟩
  show cnt f j + (if f (j + 1) then 1 else 0) = cnt f j + 1
  rw [h]; rfl
theorem cnt_no (f : Nat → Bool) (k : Nat) (hk : 1 ≤ k) (h : f k = false) : cnt f k = cnt f (k - 1) := by
  obtain ⟨j, rfl⟩ : ∃ j, k = j + 1 := ⟨k - 1, by omega⟩
  show cnt f j + (if f (j + 1) then 1 else 0) = cnt f j
  rw [h]; rfl

/-- Is i's group the first of its track? -/
def fgOf (tr gr : Nat → Nat) : Nat → Bool
  | 0 => true
  | i + 1 => if gr (i + 1) = gr i then fgOf tr gr i else decide (tr (i + 1) ≠ tr i)
/-- Is the group of the (d+1)-th position from the end the last of its track? -/
def lgD (tr gr : Nat → Nat) (n : Nat) : Nat → Bool
  | 0 => true
  | d + 1 => if gr (n - 1 - d) = gr (n - 1 - (d + 1)) then lgD tr gr n d else decide (tr (n - 1 - d) ≠ tr (n - 1 - (d + 1)))
def lgOf (tr gr : Nat → Nat) (n i : Nat) : Bool := lgD tr gr n (n - 1 - i)

/-- What the model says that i depends on j. -/
def dep (pr tr gr : Nat → Nat) (n i j : Nat) : Bool :=
  if fgOf tr gr i then decide (pr j + 1 = pr i) && lgOf tr gr n j else decide (tr j = tr i) && decide (gr j + 1 = gr i)
def wantOf (pr tr gr : Nat → Nat) (n i : Nat) : List Nat := (List.range n).filter (dep pr tr gr n i)
def modelOf (pr tr gr : Nat → Nat) (n : Nat) : List (List Nat) := (List.range n).map (wantOf pr tr gr n)

theorem filter_range_succ (p : Nat → Bool) (j : Nat) : (List.range (j + 1)).filter p = (List.range j).filter p ++ (if p j then [j] else []) := by
  rw [List.range_succ, List.filter_append]
  cases h : p j <;> simp [h]

end Go.Proofs.Qxb6600314aDoor
