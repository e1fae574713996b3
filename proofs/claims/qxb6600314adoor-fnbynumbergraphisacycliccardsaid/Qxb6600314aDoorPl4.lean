/-
  Seat b6600314aD: THE PLAIN LAW, level by level: groups, tracks, phases. By an AI agent (seat 043).
-/
import Derived.Test.Qxb6600314aDoorPl3
set_option linter.unusedSimpArgs false
set_option linter.unusedVariables false
namespace Go.Proofs.Qxb6600314aDoor
section
variable {n : Nat} {PK TK GK : Nat → List UInt8} {np nt ng : Nat → Bool}

theorem least_mark (f : Nat → Bool) (j c : Nat) (h : j < c) (hc : f c = true) : ∃ e, j < e ∧ e ≤ c ∧ f e = true ∧ ∀ i, j < i → i < e → f i = false := by
  induction hd : c - j generalizing j with
  | zero => omega
  | succ d ih =>
    cases hf : f (j + 1) with
    | true => exact ⟨j + 1, by omega, by omega, hf, fun i h1 h2 => by omega⟩
    | false =>
      have hjc : j + 1 < c := by
        rcases Nat.eq_or_lt_of_le (show j + 1 ≤ c by omega) with e | e
        · rw [e] at hf; rw [hf] at hc; cases hc
        · exact e
      obtain ⟨e, h1, h2, h3, h4⟩ := ih (j + 1) hjc (by omega)
      exact ⟨e, by omega, h2, h3, fun i hi1 hi2 => by
        rcases Nat.eq_or_lt_of_le (show j + 1 ≤ i by omega) with e' | e'
        · rw [← e']; exact hf
        · exact h4 i e' hi2⟩

theorem group_level (M : Marks n PK TK GK np nt ng) (t b : Nat) (htb : t < b) (hbn : b ≤ n) (ht : t = 0 ∨ nt t = true) (hin : ∀ i, t < i → i < b → nt i = false) (hbe : b < n → nt b = true) :
    ∀ (c : Nat) (gb : List Nat), t ≤ c → c ≤ b → (c = t ∨ c = b ∨ ng c = true) → (c < b → gb = wt np nt ng n c) →
      (cut GK (List.range' c (b - c))).foldl stepG (upTo (wt np nt ng n) n c, gb) = (upTo (wt np nt ng n) n b, if c = b then gb else (List.range' t (b - t)).filter (lg nt ng n)) := by
  intro c
  induction hd : b - c using Nat.strongRecOn generalizing c with
  | _ d ih =>
    intro gb htc hcb hc hgb
    subst hd
    rcases Nat.eq_or_lt_of_le hcb with e | hlt
    · subst e
      rw [Nat.sub_self, if_pos rfl]
      rfl
    · have hng0 : c = 0 ∨ ng c = true := by
        rcases hc with h | h | h
        · subst h
          rcases ht with h | h
          · exact .inl h
          · exact .inr (M.tg c h)
        · omega
        · exact .inr h
      have hnp : ∀ i, t < i → i < b → np i = false := fun i h1 h2 => by
        cases h : np i with
        | false => rfl
        | true => have := hin i h1 h2; rw [M.pt i h] at this; cases this
      obtain ⟨m, hm1, hm2, hsame, hnext, hcut⟩ := cut_range GK c (b - c) (by omega)
      have hngin : ∀ i, c < i → i < c + m → ng i = false := fun i h1 h2 => (M.gk i (by omega) (by omega) (hin i (by omega) (by omega))).2 (hsame i h1 h2)
      have hngm : c + m < b → ng (c + m) = true := fun h => by
        cases hh : ng (c + m) with
        | true => rfl
        | false => exact absurd ((M.gk (c + m) (by omega) (by omega) (hin _ (by omega) h)).1 hh) (hnext (by omega))
      rw [hcut, List.foldl_cons]
      have hset : setAll (upTo (wt np nt ng n) n c) gb (List.range' c m) = upTo (wt np nt ng n) n (c + m) := by
        refine setAll_upTo _ n gb m c (by omega) (fun i h1 h2 => ?_)
        rw [hgb hlt]
        refine want_congr (fg_run h1 (fun j hj1 hj2 => hngin j hj1 (by omega))) ?_ ?_ ?_
        · exact (cnt_same np h1 (fun j hj1 hj2 => hnp j (by omega) (by omega))).symm
        · exact (cnt_same nt h1 (fun j hj1 hj2 => hin j (by omega) (by omega))).symm
        · exact (cnt_same ng h1 (fun j hj1 hj2 => hngin j hj1 (by omega))).symm
      have hstep : stepG (upTo (wt np nt ng n) n c, gb) (List.range' c m) = (upTo (wt np nt ng n) n (c + m), List.range' c m) := by
        show (setAll _ _ _, _) = _
        rw [hset]
      rw [hstep, show b - c - m = b - (c + m) by omega]
      have hgrc : ∀ j, j < c → cnt ng j < cnt ng c := fun j hj => by
        rcases hng0 with h | h
        · omega
        · exact cnt_lt ng hj (Nat.le_refl _) h
      have hrun : ∀ j, c ≤ j → j < c + m → cnt ng j = cnt ng c := fun j h1 h2 => (cnt_same ng h1 (fun i hi1 hi2 => hngin i hi1 (by omega))).symm
      rw [ih (b - (c + m)) (by omega) (c + m) rfl (List.range' c m) (by omega) (by omega) (by
          rcases Nat.eq_or_lt_of_le (show c + m ≤ b by omega) with e | e
          · exact .inr (.inl e)
          · exact .inr (.inr (hngm e)))
        (fun hlt2 => by
          -- the group that was just passed is what the next group depends on
          have hfg : fgOf (cnt nt) (cnt ng) (c + m) = false := by
            rw [fg_head (.inr (hngm hlt2)), hin (c + m) (by omega) hlt2]
            simp; omega
          symm
          refine filter_interval n c m _ (by omega) (fun j hj => ?_)
          unfold dep
          rw [hfg]
          have hgm : cnt ng (c + m) = cnt ng c + 1 := by
            rw [cnt_yes ng (c + m) (by omega) (hngm hlt2), hrun (c + m - 1) (by omega) (by omega)]
          simp only [Bool.false_eq_true, if_false, Bool.and_eq_true, decide_eq_true_eq]
          constructor
          · rintro ⟨_, h2⟩
            constructor
            · rcases Nat.lt_or_ge j c with h | h
              · have := hgrc j h; omega
              · exact h
            · rcases Nat.lt_or_ge j (c + m) with h | h
              · exact h
              · have := cnt_mono ng h; omega
          · rintro ⟨h1, h2⟩
            refine ⟨cnt_same nt (by omega) (fun i hi1 hi2 => hin i (by omega) (by omega)), ?_⟩
            rw [hrun j h1 h2, hgm])]
      congr 1
      rw [if_neg (show ¬ c = b by omega)]
      split
      · -- the last group of the track
        rename_i hcm
        have hlast : lg nt ng n (b - 1) = true := by
          show lgOf (cnt nt) (cnt ng) n (b - 1) = true
          rw [lg_end (by omega) hbn (fun h => M.tg b (hbe h))]
          rcases Nat.eq_or_lt_of_le hbn with e | e
          · simp [e]
          · simp [hbe e]
        have hlg : ∀ j, j < n → ((decide (t ≤ j ∧ j < t + (b - t)) && lg nt ng n j) = true ↔ c ≤ j ∧ j < c + m) := by
          intro j hj
          simp only [Bool.and_eq_true, decide_eq_true_eq]
          constructor
          · rintro ⟨⟨h1, h2⟩, h3⟩
            refine ⟨?_, by omega⟩
            rcases Nat.lt_or_ge j c with h | h
            · exfalso
              have hngc : ng c = true := by
                rcases hng0 with h' | h'
                · omega
                · exact h'
              obtain ⟨e, e1, e2, e3, e4⟩ := least_mark ng j c h hngc
              rw [lg, lg_run (e := e) (by omega) e1 e4, lg_end (by omega) (by omega) (fun _ => e3), hin e (by omega) (by omega)] at h3
              simp at h3
              omega
            · exact h
          · rintro ⟨h1, h2⟩
            refine ⟨by omega, ?_⟩
            rw [lg, lg_run (e := b) hbn (by omega) (fun i hi1 hi2 => hngin i (by omega) (by omega))]
            exact hlast
        rw [← filter_interval' n t (b - t) (fun j => decide (t ≤ j ∧ j < t + (b - t)) && lg nt ng n j) (lg nt ng n) (by omega) (fun j hj => rfl)]
        exact (filter_interval n c m _ (by omega) hlg).symm
      · rfl

theorem track_level (M : Marks n PK TK GK np nt ng) (p b : Nat) (hpb : p < b) (hbn : b ≤ n) (hp : p = 0 ∨ np p = true) (hin : ∀ i, p < i → i < b → np i = false) (hbe : b < n → np b = true) (pb : List Nat)
    (hpbe : pb = (List.range n).filter (fun j => decide (cnt np j + 1 = cnt np p) && lg nt ng n j)) :
    ∀ (c : Nat), p ≤ c → c ≤ b → (c = p ∨ c = b ∨ nt c = true) →
      (cut TK (List.range' c (b - c))).foldl (stepT GK pb) (upTo (wt np nt ng n) n c, (List.range' p (c - p)).filter (lg nt ng n)) = (upTo (wt np nt ng n) n b, (List.range' p (b - p)).filter (lg nt ng n)) := by
  intro c
  induction hd : b - c using Nat.strongRecOn generalizing c with
  | _ d ih =>
    intro hpc hcb hc
    subst hd
    rcases Nat.eq_or_lt_of_le hcb with e | hlt
    · subst e
      rw [Nat.sub_self]
      rfl
    · have hnt0 : c = 0 ∨ nt c = true := by
        rcases hc with h | h | h
        · subst h
          rcases hp with h | h
          · exact .inl h
          · exact .inr (M.pt c h)
        · omega
        · exact .inr h
      obtain ⟨m, hm1, hm2, hsame, hnext, hcut⟩ := cut_range TK c (b - c) (by omega)
      have hntin : ∀ i, c < i → i < c + m → nt i = false := fun i h1 h2 => (M.tk i (by omega) (by omega) (hin i (by omega) (by omega))).2 (hsame i h1 h2)
      have hntm : c + m < b → nt (c + m) = true := fun h => by
        cases hh : nt (c + m) with
        | true => rfl
        | false => exact absurd ((M.tk (c + m) (by omega) (by omega) (hin _ (by omega) h)).1 hh) (hnext (by omega))
      have hwant : pb = wt np nt ng n c := by
        have hfg : fgOf (cnt nt) (cnt ng) c = true := by
          rw [fg_head (by
            rcases hnt0 with h | h
            · exact .inl h
            · exact .inr (M.tg c h))]
          rcases hnt0 with h | h
          · simp [h]
          · simp [h]
        rw [hpbe]
        unfold wt wantOf
        apply List.filter_congr
        intro j _
        unfold dep
        rw [hfg, if_pos rfl, cnt_same np (i := p) (j := c) hpc (fun i h1 h2 => hin i h1 (by omega))]
      have hg := group_level M c (c + m) (by omega) (by omega) hnt0 hntin (fun h => by
        rcases Nat.eq_or_lt_of_le (show c + m ≤ b by omega) with e | e
        · rw [e] at h ⊢; exact M.pt b (hbe h)
        · exact hntm e) c pb (Nat.le_refl _) (by omega) (.inl rfl) (fun _ => hwant)
      rw [show c + m - c = m by omega, if_neg (by omega)] at hg
      rw [hcut, List.foldl_cons]
      have hstep : stepT GK pb (upTo (wt np nt ng n) n c, (List.range' p (c - p)).filter (lg nt ng n)) (List.range' c m) = (upTo (wt np nt ng n) n (c + m), (List.range' p (c + m - p)).filter (lg nt ng n)) := by
        show ((runTrack GK pb _ _).1, _ ++ (runTrack GK pb _ _).2) = _
        unfold runTrack
        rw [hg]
        congr 1
        rw [← List.filter_append]
        congr 1
        have := List.range'_append (s := p) (m := c - p) (n := m) (step := 1)
        simp only [Nat.one_mul] at this
        rw [show p + (c - p) = c by omega] at this
        rw [this]
        congr 1
        omega
      rw [hstep, show b - c - m = b - (c + m) by omega]
      exact ih (b - (c + m)) (by omega) (c + m) rfl (by omega) (by omega) (by
        rcases Nat.eq_or_lt_of_le (show c + m ≤ b by omega) with e | e
        · exact .inr (.inl e)
        · exact .inr (.inr (hntm e)))

theorem phase_level (M : Marks n PK TK GK np nt ng) :
    ∀ (c : Nat) (pb : List Nat), c ≤ n → (c = 0 ∨ c = n ∨ np c = true) → (c < n → pb = (List.range n).filter (fun j => decide (cnt np j + 1 = cnt np c) && lg nt ng n j)) →
      ((cut PK (List.range' c (n - c))).foldl (stepP TK GK) (upTo (wt np nt ng n) n c, pb)).1 = upTo (wt np nt ng n) n n := by
  intro c
  induction hd : n - c using Nat.strongRecOn generalizing c with
  | _ d ih =>
    intro pb hcn hc hpb
    subst hd
    rcases Nat.eq_or_lt_of_le hcn with e | hlt
    · subst e
      rw [Nat.sub_self]
      rfl
    · have hnp0 : c = 0 ∨ np c = true := by
        rcases hc with h | h | h
        · exact .inl h
        · omega
        · exact .inr h
      obtain ⟨m, hm1, hm2, hsame, hnext, hcut⟩ := cut_range PK c (n - c) (by omega)
      have hnpin : ∀ i, c < i → i < c + m → np i = false := fun i h1 h2 => (M.pk i (by omega) (by omega)).2 (hsame i h1 h2)
      have hnpm : c + m < n → np (c + m) = true := fun h => by
        cases hh : np (c + m) with
        | true => rfl
        | false => exact absurd ((M.pk (c + m) (by omega) (by omega)).1 hh) (hnext (by omega))
      have ht := track_level M c (c + m) (by omega) (by omega) hnp0 hnpin hnpm pb (hpb hlt) c (Nat.le_refl _) (by omega) (.inl rfl)
      rw [show c + m - c = m by omega, Nat.sub_self] at ht
      rw [hcut, List.foldl_cons]
      have hstep : stepP TK GK (upTo (wt np nt ng n) n c, pb) (List.range' c m) = (upTo (wt np nt ng n) n (c + m), (List.range' c m).filter (lg nt ng n)) := by
        show runPhase TK GK pb _ _ = _
        unfold runPhase
        exact ht
      rw [hstep, show n - c - m = n - (c + m) by omega]
      refine ih (n - (c + m)) (by omega) (c + m) rfl _ (by omega) (by
        rcases Nat.eq_or_lt_of_le (show c + m ≤ n by omega) with e | e
        · exact .inr (.inl e)
        · exact .inr (.inr (hnpm e))) (fun h => ?_)
      symm
      refine filter_interval' n c m _ (lg nt ng n) (by omega) (fun j hj => ?_)
      congr 1
      have hpm : cnt np (c + m) = cnt np c + 1 := by
        rw [cnt_yes np (c + m) (by omega) (hnpm h), cnt_same np (i := c) (j := c + m - 1) (by omega) (fun i h1 h2 => hnpin i h1 (by omega))]
      rw [decide_eq_decide]
      constructor
      · intro h2
        constructor
        · rcases Nat.lt_or_ge j c with h' | h'
          · rcases hnp0 with h0 | h0
            · omega
            · have := cnt_lt np h' (Nat.le_refl _) h0; omega
          · exact h'
        · rcases Nat.lt_or_ge j (c + m) with h' | h'
          · exact h'
          · have := cnt_mono np h'; omega
      · rintro ⟨h1, h2⟩
        have := cnt_same np (i := c) (j := j) h1 (fun i hi1 hi2 => hnpin i hi1 (by omega))
        omega

/-- THE PLAIN LAW. -/
theorem byNum_model (M : Marks n PK TK GK np nt ng) : byNum PK TK GK n = modelOf (cnt np) (cnt nt) (cnt ng) n := by
  have h := phase_level M 0 [] (Nat.zero_le _) (.inl rfl) (fun _ => by
    symm
    rw [List.filter_eq_nil_iff]
    intro j _
    show ¬ ((decide (cnt np j + 1 = 0) && _) = true)
    simp)
  rw [upTo_zero, upTo_all, Nat.sub_zero, ← List.range_eq_range'] at h
  exact h

end
end Go.Proofs.Qxb6600314aDoor
