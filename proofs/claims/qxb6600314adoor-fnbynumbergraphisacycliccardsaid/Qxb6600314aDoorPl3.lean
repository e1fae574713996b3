/-
  Seat b6600314aD: THE PLAIN LAW: byNumber's folds give the run model's lists. No Go in sight. By an AI agent (seat 043).
-/
import Derived.Test.Qxb6600314aDoorPl
import Derived.Test.Qxb6600314aDoorPl2
set_option linter.unusedSimpArgs false
set_option linter.unusedVariables false
namespace Go.Proofs.Qxb6600314aDoor

/-! ### counts -/
theorem cnt_mono (f : Nat → Bool) {i j : Nat} (h : i ≤ j) : cnt f i ≤ cnt f j := by
  induction j with
  | zero => have : i = 0 := by omega
            subst this; exact Nat.le_refl _
  | succ j ih =>
    rcases Nat.eq_or_lt_of_le h with e | e
    · subst e; exact Nat.le_refl _
    · have := ih (by omega)
      show cnt f i ≤ cnt f j + _
      omega
theorem cnt_lt (f : Nat → Bool) {i j c : Nat} (h1 : i < c) (h2 : c ≤ j) (hc : f c = true) : cnt f i < cnt f j := by
  have a := cnt_mono f (i := i) (j := c - 1) (by omega)
  have b := cnt_yes f c (by omega) hc
  have d := cnt_mono f h2
  omega
theorem cnt_same (f : Nat → Bool) {i j : Nat} (h : i ≤ j) (hf : ∀ c, i < c → c ≤ j → f c = false) : cnt f i = cnt f j := by
  induction j with
  | zero => have : i = 0 := by omega
            subst this; rfl
  | succ j ih =>
    rcases Nat.eq_or_lt_of_le h with e | e
    · subst e; rfl
    · rw [ih (by omega) (fun c h1 h2 => hf c h1 (by omega)), cnt_no f (j + 1) (by omega) (hf (j + 1) (by omega) (Nat.le_refl _))]
      rfl

/-! ### lists -/
theorem filter_interval (n c m : Nat) (p : Nat → Bool) (hm : c + m ≤ n) (h : ∀ j, j < n → (p j = true ↔ c ≤ j ∧ j < c + m)) : (List.range n).filter p = List.range' c m := by
  have e : List.range n = List.range' 0 c ++ (List.range' c m ++ List.range' (c + m) (n - (c + m))) := by
    rw [List.range_eq_range']
    have h1 := List.range'_append (s := c) (m := m) (n := n - (c + m)) (step := 1)
    have h2 := List.range'_append (s := 0) (m := c) (n := n - c) (step := 1)
    simp only [Nat.one_mul, Nat.zero_add] at h1 h2
    rw [h1, show m + (n - (c + m)) = n - c by omega, h2, show c + (n - c) = n by omega]
  rw [e, List.filter_append, List.filter_append]
  have f1 : (List.range' 0 c).filter p = [] := by
    rw [List.filter_eq_nil_iff]
    intro j hj
    simp only [List.mem_range'_1] at hj
    rw [h j (by omega)]
    omega
  have f2 : (List.range' c m).filter p = List.range' c m := by
    rw [List.filter_eq_self]
    intro j hj
    simp only [List.mem_range'_1] at hj
    rw [h j (by omega)]
    omega
  have f3 : (List.range' (c + m) (n - (c + m))).filter p = [] := by
    rw [List.filter_eq_nil_iff]
    intro j hj
    simp only [List.mem_range'_1] at hj
    rw [h j (by omega)]
    omega
  rw [f1, f2, f3]
  simp
theorem filter_interval' (n c m : Nat) (p q : Nat → Bool) (hm : c + m ≤ n) (h : ∀ j, j < n → p j = (decide (c ≤ j ∧ j < c + m) && q j)) : (List.range n).filter p = (List.range' c m).filter q := by
  have e := filter_interval n c m (fun j => decide (c ≤ j ∧ j < c + m)) hm (fun j hj => by simp)
  rw [← e, List.filter_filter]
  apply List.filter_congr
  intro j hj
  rw [h j (by simpa using hj)]
  cases q j <;> cases decide (c ≤ j ∧ j < c + m) <;> rfl

/-- What is known of every position below c. -/
def upTo (want : Nat → List Nat) (n c : Nat) : List (List Nat) := (List.range n).map fun i => if i < c then want i else []
theorem upTo_zero (want : Nat → List Nat) (n : Nat) : upTo want n 0 = List.replicate n [] := by
  unfold upTo
  apply List.ext_getElem (by simp)
  intro i h1 h2
  simp
theorem upTo_all (want : Nat → List Nat) (n : Nat) : upTo want n n = (List.range n).map want := by
  unfold upTo
  apply List.map_congr_left
  intro i hi
  rw [if_pos (by simpa using hi)]
theorem upTo_set (want : Nat → List Nat) (n c : Nat) (hc : c < n) : (upTo want n c).set c (want c) = upTo want n (c + 1) := by
  unfold upTo
  apply List.ext_getElem (by simp)
  intro i h1 h2
  rw [List.getElem_set]
  simp only [List.getElem_map, List.getElem_range]
  by_cases e : c = i
  · subst e
    simp
  · rw [if_neg e]
    by_cases h : i < c
    · rw [if_pos h, if_pos (by omega)]
    · rw [if_neg h, if_neg (by omega)]
theorem setAll_upTo (want : Nat → List Nat) (n : Nat) (gb : List Nat) : ∀ (m c : Nat), c + m ≤ n → (∀ i, c ≤ i → i < c + m → want i = gb) → setAll (upTo want n c) gb (List.range' c m) = upTo want n (c + m)
  | 0, c, _, _ => rfl
  | m + 1, c, h, hw => by
    rw [List.range'_succ]
    show setAll ((upTo want n c).set c gb) gb (List.range' (c + 1) m) = _
    rw [← hw c (by omega) (by omega), upTo_set want n c (by omega), hw c (by omega) (by omega), setAll_upTo want n gb m (c + 1) (by omega) (fun i h1 h2 => hw i (by omega) (by omega))]
    rw [show c + 1 + m = c + (m + 1) by omega]

/-- The first run of an interval. -/
theorem cut_range (K : Nat → List UInt8) (c len : Nat) (h : 0 < len) : ∃ m, 1 ≤ m ∧ m ≤ len ∧ (∀ i, c < i → i < c + m → K i = K (i - 1)) ∧ (m < len → K (c + m) ≠ K (c + m - 1)) ∧
    cut K (List.range' c len) = List.range' c m :: cut K (List.range' (c + m) (len - m)) := by
  have hlen : (List.range' c len).length = len := by simp
  have hget : ∀ i, i < len → (List.range' c len).getD i 0 = c + i := by
    intro i hi
    rw [List.getD_eq_getElem?_getD, List.getElem?_eq_getElem (by simpa using hi)]
    simp
  -- the length of the run
  have hex : ∃ m, 1 ≤ m ∧ m ≤ len ∧ (∀ i, 1 ≤ i → i < m → K (c + i) = K c) ∧ (m < len → K (c + m) ≠ K c) := by
    have aux : ∀ k, 1 ≤ k → k ≤ len → (∀ i, 1 ≤ i → i < k → K (c + i) = K c) → ∃ m, 1 ≤ m ∧ m ≤ len ∧ (∀ i, 1 ≤ i → i < m → K (c + i) = K c) ∧ (m < len → K (c + m) ≠ K c) := by
      intro k
      induction hd : len - k generalizing k with
      | zero =>
        intro h1 h2 h3
        exact ⟨k, h1, h2, h3, fun h => by omega⟩
      | succ d ih =>
        intro h1 h2 h3
        by_cases e : K (c + k) = K c
        · exact ih (k + 1) (by omega) (by omega) (by omega) (fun i hi1 hi2 => by
            by_cases hik : i < k
            · exact h3 i hi1 hik
            · have : i = k := by omega
              subst this; exact e)
        · exact ⟨k, h1, h2, h3, fun _ => e⟩
    exact aux 1 (Nat.le_refl _) h (fun i h1 h2 => by omega)
  obtain ⟨m, h1, h2, h3, h4⟩ := hex
  have hK : ∀ i, i < m → K (c + i) = K c := fun i hi => by
    rcases Nat.eq_zero_or_pos i with e | e
    · subst e; rfl
    · exact h3 i e hi
  refine ⟨m, h1, h2, fun i hi1 hi2 => ?_, fun hm => ?_, ?_⟩
  · have a := hK (i - c) (by omega)
    have b := hK (i - 1 - c) (by omega)
    rw [show c + (i - c) = i by omega] at a
    rw [show c + (i - 1 - c) = i - 1 by omega] at b
    rw [a, b]
  · have b := hK (m - 1) (by omega)
    rw [show c + (m - 1) = c + m - 1 by omega] at b
    rw [b]
    exact h4 hm
  · have := cut_step K (List.range' c len) m h1 (by rw [hlen]; exact h2) (fun i hi1 hi2 => by
        rw [hget i (by omega), hget 0 h, h3 i hi1 hi2]
        simp) (fun hm => by
        rw [hlen] at hm
        rw [hget m hm, hget 0 h]
        simpa using h4 hm)
    rw [this]
    congr 1
    · apply List.ext_getElem (by simp; omega)
      intro i h1 h2
      simp
    · rw [List.drop_range']
      simp

/-! ### the run numbers -/
section
variable (n : Nat) (PK TK GK : Nat → List UInt8) (np nt ng : Nat → Bool)
/-- How the three marks of a new run hang together with the keys. -/
structure Marks : Prop where
  pk : ∀ i, 1 ≤ i → i < n → (np i = false ↔ PK i = PK (i - 1))
  pt : ∀ i, np i = true → nt i = true
  tk : ∀ i, 1 ≤ i → i < n → np i = false → (nt i = false ↔ TK i = TK (i - 1))
  tg : ∀ i, nt i = true → ng i = true
  gk : ∀ i, 1 ≤ i → i < n → nt i = false → (ng i = false ↔ GK i = GK (i - 1))
end

section
variable {n : Nat} {PK TK GK : Nat → List UInt8} {np nt ng : Nat → Bool}

/-- Within a run of one group the first mark is as at its head. -/
theorem fg_run {c i : Nat} (hi : c ≤ i) (h : ∀ j, c < j → j ≤ i → ng j = false) : fgOf (cnt nt) (cnt ng) i = fgOf (cnt nt) (cnt ng) c := by
  induction i with
  | zero => have : c = 0 := by omega
            subst this; rfl
  | succ i ih =>
    rcases Nat.eq_or_lt_of_le hi with e | e
    · rw [e]
    · have hng := h (i + 1) (by omega) (Nat.le_refl _)
      show (if cnt ng (i + 1) = cnt ng i then fgOf (cnt nt) (cnt ng) i else _) = _
      rw [if_pos (by have := cnt_no ng (i + 1) (by omega) hng; simpa using this)]
      exact ih (by omega) (fun j h1 h2 => h j h1 (by omega))
/-- At a group's head: is it a track's head? -/
theorem fg_head {c : Nat} (hc : c = 0 ∨ ng c = true) : fgOf (cnt nt) (cnt ng) c = (decide (c = 0) || nt c) := by
  cases c with
  | zero => rfl
  | succ c =>
    have hng : ng (c + 1) = true := by
      rcases hc with h | h
      · omega
      · exact h
    show (if cnt ng (c + 1) = cnt ng c then fgOf (cnt nt) (cnt ng) c else decide (cnt nt (c + 1) ≠ cnt nt c)) = _
    have h1 := cnt_yes ng (c + 1) (by omega) hng
    have e1 : cnt ng (c + 1 - 1) = cnt ng c := rfl
    rw [if_neg (by omega)]
    cases hnt : nt (c + 1) with
    | true =>
      have h2 := cnt_yes nt (c + 1) (by omega) hnt
      have e2 : cnt nt (c + 1 - 1) = cnt nt c := rfl
      simp; omega
    | false =>
      have h2 := cnt_no nt (c + 1) (by omega) hnt
      have e2 : cnt nt (c + 1 - 1) = cnt nt c := rfl
      simp; omega

theorem lg_step {i : Nat} (hi : i + 1 < n) : lgOf (cnt nt) (cnt ng) n i = if ng (i + 1) = false then lgOf (cnt nt) (cnt ng) n (i + 1) else nt (i + 1) := by
  unfold lgOf
  obtain ⟨d, hd⟩ : ∃ d, n - 1 - i = d + 1 := ⟨n - 1 - i - 1, by omega⟩
  have h2 : n - 1 - (i + 1) = d := by omega
  have h3 : n - 1 - d = i + 1 := by omega
  have h4 : n - 1 - (d + 1) = i := by omega
  rw [hd, h2]
  show (if cnt ng (n - 1 - d) = cnt ng (n - 1 - (d + 1)) then lgD (cnt nt) (cnt ng) n d else decide (cnt nt (n - 1 - d) ≠ cnt nt (n - 1 - (d + 1)))) = _
  rw [h3, h4]
  have e1 : cnt ng (i + 1 - 1) = cnt ng i := rfl
  have e2 : cnt nt (i + 1 - 1) = cnt nt i := rfl
  cases hng : ng (i + 1) with
  | false =>
    have h1 := cnt_no ng (i + 1) (by omega) hng
    rw [if_pos (by omega), if_pos rfl]
  | true =>
    have h1 := cnt_yes ng (i + 1) (by omega) hng
    rw [if_neg (by omega), if_neg (by simp)]
    cases hnt : nt (i + 1) with
    | true => have h5 := cnt_yes nt (i + 1) (by omega) hnt; simp; omega
    | false => have h5 := cnt_no nt (i + 1) (by omega) hnt; simp; omega
theorem lg_last (h : 0 < n) : lgOf (cnt nt) (cnt ng) n (n - 1) = true := by
  unfold lgOf
  rw [Nat.sub_self]
  rfl
/-- Within a run of one group [.., e): the last mark is as at its end. -/
theorem lg_run {e i : Nat} (he : e ≤ n) (hi : i < e) (h : ∀ j, i < j → j < e → ng j = false) : lgOf (cnt nt) (cnt ng) n i = lgOf (cnt nt) (cnt ng) n (e - 1) := by
  induction hd : e - 1 - i generalizing i with
  | zero =>
    rw [show i = e - 1 by omega]
  | succ d ih =>
    rw [lg_step (by omega), if_pos (h (i + 1) (by omega) (by omega))]
    exact ih (by omega) (fun j h1 h2 => h j (by omega) h2) (by omega)
theorem lg_end {e : Nat} (h0 : 0 < e) (he : e ≤ n) (hb : e < n → ng e = true) : lgOf (cnt nt) (cnt ng) n (e - 1) = (decide (e = n) || nt e) := by
  by_cases h : e = n
  · subst h
    rw [lg_last h0]
    simp
  · rw [lg_step (by omega), show e - 1 + 1 = e by omega, if_neg (by rw [hb (by omega)]; simp)]
    simp [h]

abbrev wt (np nt ng : Nat → Bool) (n : Nat) : Nat → List Nat := wantOf (cnt np) (cnt nt) (cnt ng) n
abbrev lg (nt ng : Nat → Bool) (n : Nat) : Nat → Bool := lgOf (cnt nt) (cnt ng) n

theorem want_congr {i c : Nat} (h1 : fgOf (cnt nt) (cnt ng) i = fgOf (cnt nt) (cnt ng) c) (h2 : cnt np i = cnt np c) (h3 : cnt nt i = cnt nt c) (h4 : cnt ng i = cnt ng c) : wt np nt ng n i = wt np nt ng n c := by
  unfold wt wantOf
  apply List.filter_congr
  intro j _
  unfold dep
  rw [h1, h2, h3, h4]

end

end Go.Proofs.Qxb6600314aDoor
