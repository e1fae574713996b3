/-
  Seat b6600314aD: the plain functions (no Go in sight): cutting positions into runs. By an AI agent (seat 043).
-/
set_option linter.unusedSimpArgs false
set_option linter.unusedVariables false
namespace Go.Proofs.Qxb6600314aDoor

/-- The longest runs of positions of one key, with fuel. -/
def cutF (K : Nat → List UInt8) : Nat → List Nat → List (List Nat)
  | 0, _ => []
  | _ + 1, [] => []
  | f + 1, p :: ps => (p :: ps.takeWhile (fun q => K q == K p)) :: cutF K f (ps.dropWhile (fun q => K q == K p))
def cut (K : Nat → List UInt8) (ps : List Nat) : List (List Nat) := cutF K ps.length ps

theorem dropWhile_len {α : Type} (f : α → Bool) : ∀ l : List α, (l.dropWhile f).length ≤ l.length
  | [] => by simp
  | x :: l => by
    rw [List.dropWhile_cons]
    split
    · have := dropWhile_len f l; simp; omega
    · simp

theorem cutF_fuel (K : Nat → List UInt8) : ∀ (f g : Nat) (ps : List Nat), ps.length ≤ f → ps.length ≤ g → cutF K f ps = cutF K g ps
  | 0, 0, _, _, _ => rfl
  | 0, g + 1, ps, h, _ => by
    have : ps = [] := List.eq_nil_of_length_eq_zero (by omega)
    subst this; rfl
  | f + 1, 0, ps, _, h => by
    have : ps = [] := List.eq_nil_of_length_eq_zero (by omega)
    subst this; rfl
  | f + 1, g + 1, [], _, _ => rfl
  | f + 1, g + 1, p :: ps, h, h' => by
    simp only [cutF]
    have := dropWhile_len (fun q => K q == K p) ps
    rw [cutF_fuel K f g _ (by simp at h; omega) (by simp at h'; omega)]

theorem cut_nil (K : Nat → List UInt8) : cut K [] = [] := rfl
theorem cut_cons (K : Nat → List UInt8) (p : Nat) (ps : List Nat) : cut K (p :: ps) = (p :: ps.takeWhile (fun q => K q == K p)) :: cut K (ps.dropWhile (fun q => K q == K p)) := by
  unfold cut
  simp only [List.length_cons, cutF]
  rw [cutF_fuel K ps.length _ _ (dropWhile_len _ _) (Nat.le_refl _)]

theorem take_while_is {α : Type} (f : α → Bool) : ∀ (l : List α) (j : Nat), j ≤ l.length → (∀ i x, i < j → l[i]? = some x → f x = true) → (∀ x, l[j]? = some x → f x = false) → l.takeWhile f = l.take j ∧ l.dropWhile f = l.drop j
  | [], j, h, _, _ => by simp
  | x :: l, 0, h, _, h2 => by
    have := h2 x (by simp)
    simp [List.takeWhile_cons, List.dropWhile_cons, this]
  | x :: l, j + 1, h, h1, h2 => by
    have hx := h1 0 x (by omega) (by simp)
    have ih := take_while_is f l j (by simp at h; omega) (fun i y hi hy => h1 (i + 1) y (by omega) (by simpa using hy)) (fun y hy => h2 y (by simpa using hy))
    simp [List.takeWhile_cons, List.dropWhile_cons, hx, ih.1, ih.2]

/-- One round of 'runs'. -/
theorem cut_step (K : Nat → List UInt8) (l : List Nat) (j : Nat) (hj1 : 1 ≤ j) (hj2 : j ≤ l.length)
    (hall : ∀ i, 1 ≤ i → i < j → (K (l.getD i 0) == K (l.getD 0 0)) = true) (hend : j < l.length → (K (l.getD j 0) == K (l.getD 0 0)) = false) :
    cut K l = l.take j :: cut K (l.drop j) := by
  match l, j, hj1, hj2, hall, hend with
  | [], _, h1, h2, _, _ => simp at h2; omega
  | p :: ps, j + 1, _, hj2, hall, hend =>
    simp only [List.length_cons] at hj2
    have := take_while_is (fun q => K q == K p) ps j (by omega) (fun i x hi hx => by
        have := hall (i + 1) (by omega) (by omega)
        simpa [List.getD, hx] using this)
      (fun x hx => by
        have hl : j < ps.length := by
          rcases Nat.lt_or_ge j ps.length with h | h
          · exact h
          · rw [List.getElem?_eq_none h] at hx; cases hx
        have := hend (by simp; omega)
        simpa [List.getD, hx] using this)
    rw [cut_cons, this.1, this.2]
    simp

theorem mem_takeWhile {α : Type} (f : α → Bool) : ∀ (l : List α) (x : α), x ∈ l.takeWhile f → x ∈ l := fun l x h => (List.takeWhile_prefix f).subset h
theorem mem_dropWhile {α : Type} (f : α → Bool) : ∀ (l : List α) (x : α), x ∈ l.dropWhile f → x ∈ l := fun l x h => (List.dropWhile_suffix f).subset h

theorem cutF_mem (K : Nat → List UInt8) : ∀ (f : Nat) (ps g : List Nat), g ∈ cutF K f ps → g ≠ [] ∧ (∀ x ∈ g, x ∈ ps) ∧ g.length ≤ ps.length
  | 0, _, _, h => by simp [cutF] at h
  | f + 1, [], _, h => by simp [cutF] at h
  | f + 1, p :: ps, g, h => by
    simp only [cutF, List.mem_cons] at h
    rcases h with rfl | h
    · refine ⟨by simp, fun x hx => ?_, ?_⟩
      · simp only [List.mem_cons] at hx ⊢
        rcases hx with h | h
        · exact .inl h
        · exact .inr (mem_takeWhile _ _ _ h)
      · have := (List.takeWhile_prefix (fun q => K q == K p) (l := ps)).length_le
        simp; omega
    · obtain ⟨h1, h2, h3⟩ := cutF_mem K f _ g h
      refine ⟨h1, fun x hx => List.mem_cons_of_mem _ (mem_dropWhile _ _ _ (h2 x hx)), ?_⟩
      have := dropWhile_len (fun q => K q == K p) ps
      simp; omega
theorem cut_mem (K : Nat → List UInt8) (ps g : List Nat) (h : g ∈ cut K ps) : g ≠ [] ∧ (∀ x ∈ g, x ∈ ps) ∧ g.length ≤ ps.length := cutF_mem K _ ps g h
theorem cutF_len (K : Nat → List UInt8) : ∀ (f : Nat) (ps : List Nat), (cutF K f ps).length ≤ ps.length
  | 0, _ => by simp [cutF]
  | f + 1, [] => by simp [cutF]
  | f + 1, p :: ps => by
    have h1 := cutF_len K f (ps.dropWhile (fun q => K q == K p))
    have h2 := dropWhile_len (fun q => K q == K p) ps
    simp [cutF]; omega
theorem cut_len (K : Nat → List UInt8) (ps : List Nat) : (cut K ps).length ≤ ps.length := cutF_len K _ ps
theorem cut_ne (K : Nat → List UInt8) (ps : List Nat) (h : ps ≠ []) : 0 < (cut K ps).length := by
  match ps, h with
  | p :: ps, _ => rw [cut_cons]; simp

/-! byNumber as folds -/
def setAll (d : List (List Nat)) (gb : List Nat) (g : List Nat) : List (List Nat) := g.foldl (fun d i => d.set i gb) d
def stepG (s : List (List Nat) × List Nat) (g : List Nat) : List (List Nat) × List Nat := (setAll s.1 s.2 g, g)
def runTrack (GK : Nat → List UInt8) (pb : List Nat) (d : List (List Nat)) (t : List Nat) : List (List Nat) × List Nat := (cut GK t).foldl stepG (d, pb)
def stepT (GK : Nat → List UInt8) (pb : List Nat) (s : List (List Nat) × List Nat) (t : List Nat) : List (List Nat) × List Nat := ((runTrack GK pb s.1 t).1, s.2 ++ (runTrack GK pb s.1 t).2)
def runPhase (TK GK : Nat → List UInt8) (pb : List Nat) (d : List (List Nat)) (p : List Nat) : List (List Nat) × List Nat := (cut TK p).foldl (stepT GK pb) (d, [])
def stepP (TK GK : Nat → List UInt8) (s : List (List Nat) × List Nat) (p : List Nat) : List (List Nat) × List Nat := runPhase TK GK s.2 s.1 p
def byNum (PK TK GK : Nat → List UInt8) (n : Nat) : List (List Nat) := ((cut PK (List.range n)).foldl (stepP TK GK) (List.replicate n [], [])).1

theorem fold_take {α β : Type} (f : β → α → β) (s : β) (l : List α) (k : Nat) (x : α) (h : l[k]? = some x) : (l.take (k + 1)).foldl f s = f ((l.take k).foldl f s) x := by
  obtain ⟨hk, hx⟩ := List.getElem?_eq_some_iff.1 h
  rw [List.take_succ_eq_append_getElem hk, List.foldl_append, hx]
  rfl
theorem setAll_len (d : List (List Nat)) (gb : List Nat) : ∀ g : List Nat, (setAll d gb g).length = d.length := by
  intro g
  unfold setAll
  induction g generalizing d with
  | nil => rfl
  | cons x g ih => simp [List.foldl_cons, ih]

end Go.Proofs.Qxb6600314aDoor
