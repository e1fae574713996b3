/-
  Seat b6600314aD: byNumberModel. By an AI agent (seat 043).
-/
import Derived.Test.Qxb6600314aDoorWC
set_option linter.unusedSimpArgs false
set_option linter.unusedVariables false
namespace Go.Proofs.Qxb6600314aDoor
open Go.RowKit

set_option maxRecDepth 100000 in
set_option maxHeartbeats 8000000 in
theorem model_any (a0 a1 a2 : Option Addr) (n k0 k1 k2 : Nat) (s0 s1 s2 : List ByteArray) (w : World) (hn : n ≤ 1024) (h0 : s0.length = n) (h1 : s1.length = n) (h2 : s2.length = n)
    (z0 : ∀ s ∈ s0, s.size ≤ 9223372036854775807) (z2 : ∀ s ∈ s2, s.size ≤ 9223372036854775807) (g0 : StrAt w a0 s0) (g1 : StrAt w a1 s1) (g2 : StrAt w a2 s2) :
    Calls Tryd.prog 12 #[.slice a0 n k0, .slice a1 n k1, .slice a2 n k2] w fun e w' => CutRes [] w (modelOf (cnt (isP s0)) (cnt (isT s0 s1)) (cnt (isG s0 s1 s2)) n) e w' := by
  obtain ⟨t3, hi3, hz30, hz31, hz32⟩ := info_parts info3
  obtain ⟨t4, hi4, hz40, hz41, hz42⟩ := info_parts info4
  obtain ⟨t35, hi35, hz350, hz351, hz352⟩ := info_parts info35
  have hprl : ∀ i, cnt (isP s0) i ≤ i := cnt_le _
  have htrl : ∀ i, cnt (isT s0 s1) i ≤ i := cnt_le _
  have hgrl : ∀ i, cnt (isG s0 s1 s2) i ≤ i := cnt_le _
  obtain ⟨pr, hpr⟩ : ∃ pr, pr = cnt (isP s0) := ⟨_, rfl⟩
  obtain ⟨tr, htr⟩ : ∃ tr, tr = cnt (isT s0 s1) := ⟨_, rfl⟩
  obtain ⟨gr, hgr⟩ : ∃ gr, gr = cnt (isG s0 s1 s2) := ⟨_, rfl⟩
  rw [← hpr, ← htr, ← hgr]
  rw [← hpr] at hprl
  rw [← htr] at htrl
  rw [← hgr] at hgrl
  have HPR : Hid _ := hpr
  have HTR : Hid _ := htr
  have HGR : Hid _ := hgr
  have HPL : Hid _ := hprl
  have HTL : Hid _ := htrl
  have HGL : Hid _ := hgrl
  clear hpr htr hgr hprl htrl hgrl
  go_enter Tryd.func12, Tryd.ntmps12
  go_wp2_with (first
    | (at_make; refine wpList_make_full _ rfl (.tmp 25) (.tmp 25) 35 rfl w.heap.size 3 t3 (.int .i64 0) 1 Tryd.underlying35 hi3 hz30 hz31 .i64 .i64 _ _ n rfl rfl rfl rfl (by rw [hz32]; omega) (by unfold maxLen; omega) (Nat.le_refl _) ?_; intro w1 ho1 hg1)
    | (at_make; refine wpList_make_full _ rfl (.tmp 27) (.tmp 27) 35 rfl w1.heap.size 3 t3 (.int .i64 0) 1 Tryd.underlying35 hi3 hz30 hz31 .i64 .i64 _ _ n rfl rfl rfl rfl (by rw [hz32]; omega) (by unfold maxLen; omega) (Nat.le_refl _) ?_; intro w2 ho2 hg2)
    | (at_make; refine wpList_make_full _ rfl (.tmp 29) (.tmp 29) 35 rfl w2.heap.size 3 t3 (.int .i64 0) 1 Tryd.underlying35 hi3 hz30 hz31 .i64 .i64 _ _ n rfl rfl rfl rfl (by rw [hz32]; omega) (by unfold maxLen; omega) (Nat.le_refl _) ?_; intro w3 ho3 hg3))
  have hb1 : Below w.heap.size w w1 := (Below.refl _ _).grown hg1 (Nat.le_refl _) (fun k h => by cases h)
  have hb2 : Below w1.heap.size w1 w2 := (Below.refl _ _).grown hg2 (Nat.le_refl _) (fun k h => by cases h)
  have hb3 : Below w2.heap.size w2 w3 := (Below.refl _ _).grown hg3 (Nat.le_refl _) (fun k h => by cases h)
  have lt1 : w.heap.size < w1.heap.size := (ho1.lt _ rfl).2
  have lt2 : w1.heap.size < w2.heap.size := (ho2.lt _ rfl).2
  have lt3 : w2.heap.size < w3.heap.size := (ho3.lt _ rfl).2
  have hbw : Below w.heap.size w w3 := below_step (below_step hb1 hb2) hb3
  have hz : ∀ f : Nat → Nat, f 0 = 0 → List.replicate n (.int .i64 0) = fillV (nums f n) (.int .i64 0) n 1 := by
    intro f hf
    cases n with
    | zero => rfl
    | succ m =>
      have e : (nums f (m + 1)).take 1 = [.int .i64 0] := by
        simp [nums, ints, List.range_succ_eq_map, hf]
      unfold fillV
      rw [e]
      simp [List.replicate_succ]
  have hR : Rows3 w3 w.heap.size w1.heap.size w2.heap.size n (fillV (nums pr n) (.int .i64 0) n 1) (fillV (nums tr n) (.int .i64 0) n 1) (fillV (nums gr n) (.int .i64 0) n 1) := by
    rw [← hz pr (by rw [HPR.out]; rfl), ← hz tr (by rw [HTR.out]; rfl), ← hz gr (by rw [HGR.out]; rfl)]
    refine ⟨owns_later (owns_later ?_ hb2) hb3, owns_later ?_ hb3, ?_⟩
    · simpa [toList_madeCells_one, Value.cells] using ho1
    · simpa [toList_madeCells_one, Value.cells] using ho2
    · simpa [toList_madeCells_one, Value.cells] using ho3
  clear ho1 ho2 ho3 hg1 hg2 hg3 hb1 hb2 hb3 hz
  obtain ⟨P, hP⟩ : ∃ P, P = w.heap.size := ⟨_, rfl⟩
  generalize w1.heap.size = T at *
  generalize w2.heap.size = G at *
  have HN : Hid (P = w.heap.size) := hP
  rw [← hP] at hR lt1 ⊢
  clear hP
  go_loopw [11] (fun i wr => M1 P T G n pr tr gr w i wr) (fun i _ => n - (intOf i).toNat)
  case atStart => exact ⟨1, Nat.le_refl _, .inr rfl, rfl, hR, hbw⟩
  case round =>
    clear hR hbw
    obtain ⟨k, hk1, hk2, rfl, hrows, hbr⟩ := hrel
    by_cases hlt : k < n
    · have hbP : Below P w wr := by rw [HN.out]; exact hbr
      have hPn : P < wr.heap.size := (hrows.p.lt _ rfl).2
      obtain ⟨b0, o0, r0, c0⟩ := g0 k (s0[k]'(by omega)) (by simp [h0, hlt])
      obtain ⟨b0', o0', r0', c0'⟩ := g0 (k - 1) (s0[k - 1]'(by omega)) (by rw [List.getElem?_eq_getElem])
      obtain ⟨b1, o1, r1, c1⟩ := g1 k (s1[k]'(by omega)) (by simp [h1, hlt])
      obtain ⟨b1', o1', r1', c1'⟩ := g1 (k - 1) (s1[k - 1]'(by omega)) (by rw [List.getElem?_eq_getElem])
      obtain ⟨b2, o2, r2, c2⟩ := g2 k (s2[k]'(by omega)) (by simp [h2, hlt])
      obtain ⟨b2', o2', r2', c2'⟩ := g2 (k - 1) (s2[k - 1]'(by omega)) (by rw [List.getElem?_eq_getElem])
      subst r0 r1 r2
      cases r0'; cases r1'; cases r2'
      have lb0 : b0 < P := by rw [HN.out]; exact World.block_lt_of_cell? w _ c0
      have lb1 : b1 < P := by rw [HN.out]; exact World.block_lt_of_cell? w _ c1
      have lb2 : b2 < P := by rw [HN.out]; exact World.block_lt_of_cell? w _ c2
      have d0 := cell_later hbr c0
      have d0' := cell_later hbr c0'
      have d1 := cell_later hbr c1
      have d1' := cell_later hbr c1'
      have d2 := cell_later hbr c2
      have d2' := cell_later hbr c2'
      clear c0 c0' c1 c1' c2 c2'
      have zx := z0 (s0[k]'(by omega)) (List.getElem_mem _)
      have zx' := z0 (s0[k - 1]'(by omega)) (List.getElem_mem _)
      have zz := z2 (s2[k]'(by omega)) (List.getElem_mem _)
      have zz' := z2 (s2[k - 1]'(by omega)) (List.getElem_mem _)
      have eP : newP s0 k = !(tailOf (s0[k]'(by omega)) == tailOf (s0[k - 1]'(by omega))) := by
        unfold newP
        rw [List.getD_eq_getElem?_getD, List.getD_eq_getElem?_getD, List.getElem?_eq_getElem (by omega), List.getElem?_eq_getElem (by omega)]; rfl
      have eL : newL s1 k = !((s1[k]'(by omega)).toList == (s1[k - 1]'(by omega)).toList) := by
        unfold newL
        rw [List.getD_eq_getElem?_getD, List.getD_eq_getElem?_getD, List.getElem?_eq_getElem (by omega), List.getElem?_eq_getElem (by omega)]; rfl
      have eN : newP s2 k = !(tailOf (s2[k]'(by omega)) == tailOf (s2[k - 1]'(by omega))) := by
        unfold newP
        rw [List.getD_eq_getElem?_getD, List.getD_eq_getElem?_getD, List.getElem?_eq_getElem (by omega), List.getElem?_eq_getElem (by omega)]; rfl
      generalize s0[k]'(by omega) = x at *
      generalize s0[k - 1]'(by omega) = x' at *
      generalize s1[k]'(by omega) = y at *
      generalize s1[k - 1]'(by omega) = y' at *
      generalize s2[k]'(by omega) = z at *
      generalize s2[k - 1]'(by omega) = z' at *
      have pc := (hrows.p.cellAt (k - 1) (by omega)).trans (by rw [fill_get _ _ _ _ _ (by omega) (by omega) (nums_len _ _), nums_get _ _ _ (by omega)])
      have tc := (hrows.t.cellAt (k - 1) (by omega)).trans (by rw [fill_get _ _ _ _ _ (by omega) (by omega) (nums_len _ _), nums_get _ _ _ (by omega)])
      have gc := (hrows.g.cellAt (k - 1) (by omega)).trans (by rw [fill_get _ _ _ _ _ (by omega) (by omega) (nums_len _ _), nums_get _ _ _ (by omega)])
      obtain ⟨op, hop⟩ := someAt hrows.p k (by omega)
      obtain ⟨ot, hot⟩ := someAt hrows.t k (by omega)
      obtain ⟨og, hog⟩ := someAt hrows.g k (by omega)
      have fp := hrows.p.frozenAt k
      have ft := hrows.t.frozenAt k
      have fg := hrows.g.frozenAt k
      have bp : pr (k - 1) ≤ 1024 := by have := HPL.out (k - 1); omega
      have bt' : tr (k - 1) ≤ 1024 := by have := HTL.out (k - 1); omega
      have bg : gr (k - 1) ≤ 1024 := by have := HGL.out (k - 1); omega
      have Hcp : isP s0 k = newP s0 k := rfl
      have Hct : isT s0 s1 k = (newP s0 k || newL s1 k) := rfl
      have Hcg : isG s0 s1 s2 k = ((newP s0 k || newL s1 k) || newP s2 k) := rfl
      rw [eP] at Hcp
      rw [eP, eL] at Hct
      rw [eP, eL, eN] at Hcg
      have HP' : Hid _ := Hcp
      have HT' : Hid _ := Hct
      have HG' : Hid _ := Hcg
      have i1 : (k : Int) < (n : Int) := by omega
      have i2 : (0 : Int) ≤ (k : Int) - 1 := by omega
      have i3 : (k : Int) - 1 < (n : Int) := by omega
      have i4 : (1 : Int) ≤ (k : Int) := by omega
      have hwrap : IntKind.i64.wrap ((k : Int) - 1) = (k : Int) - 1 := IntWalk.i64_in _ ⟨by omega, by omega⟩
      have HRW : Hid _ := hrows
      have hwP : w.heap.size ≤ P := by rw [HN.out]; omega
      have hwT : w.heap.size ≤ T := by omega
      have hwG : w.heap.size ≤ G := by omega
      clear Hcp Hct Hcg eP eL eN hrows g0 g1 g2 z0 z2 hbP hk2 h0 h1 h2
      cases hx : (tailOf x == tailOf x') with
      | false =>
        have epr : Hid (pr k = pr (k - 1) + 1) := by show _ = _; rw [HPR.out]; exact cnt_yes _ k hk1 (by rw [HP'.out]; simp [hx])
        have etr : Hid (tr k = tr (k - 1) + 1) := by show _ = _; rw [HTR.out]; exact cnt_yes _ k hk1 (by rw [HT'.out]; simp [hx])
        have egr : Hid (gr k = gr (k - 1) + 1) := by show _ = _; rw [HGR.out]; exact cnt_yes _ k hk1 (by rw [HG'.out]; simp [hx])
        generalize pr (k - 1) = p1 at *
        generalize tr (k - 1) = t1 at *
        generalize gr (k - 1) = q1 at *
        go_wp2
        go_quiet ((go_at_call 19; exact Calls.quiet_of (sameNumber_q x x' _ zx zx')))
        go_wp2
        go_quiet (fail)
        go_wp2
        go_quiet (fail)
        go_wp2
        go_roundw
        case rel => exact m1_end hlt (((((((HRW.out.putP lt1 lt2 k _).putT lt1 lt2 k _).putG lt1 lt2 k _).drewN _).putP lt1 lt2 k _).putT lt1 lt2 k _).putG lt1 lt2 k _) (row_up hlt epr.out _) (row_up hlt etr.out _) (row_up hlt egr.out _) (by repeat (first | exact hbr | refine bset ?_ (by assumption) _ | refine below_drewN ?_ _))
        case measure => simp [intOf]; omega
      | true =>
        cases hy : (y.toList == y'.toList) with
        | false =>
          have epr : Hid (pr k = pr (k - 1)) := by show _ = _; rw [HPR.out]; exact cnt_no _ k hk1 (by rw [HP'.out]; simp [hx, hy])
          have etr : Hid (tr k = tr (k - 1) + 1) := by show _ = _; rw [HTR.out]; exact cnt_yes _ k hk1 (by rw [HT'.out]; simp [hx, hy])
          have egr : Hid (gr k = gr (k - 1) + 1) := by show _ = _; rw [HGR.out]; exact cnt_yes _ k hk1 (by rw [HG'.out]; simp [hx, hy])
          generalize pr (k - 1) = p1 at *
          generalize tr (k - 1) = t1 at *
          generalize gr (k - 1) = q1 at *
          go_wp2
          go_quiet ((go_at_call 19; exact Calls.quiet_of (sameNumber_q x x' _ zx zx')))
          go_wp2
          go_quiet (fail)
          go_wp2
          go_quiet (fail)
          go_wp2
          go_roundw
          case rel => exact m1_end hlt ((((((HRW.out.putP lt1 lt2 k _).putT lt1 lt2 k _).putG lt1 lt2 k _).drewN _).putT lt1 lt2 k _).putG lt1 lt2 k _) (row_same hlt epr.out) (row_up hlt etr.out _) (row_up hlt egr.out _) (by repeat (first | exact hbr | refine bset ?_ (by assumption) _ | refine below_drewN ?_ _))
          case measure => simp [intOf]; omega
        | true =>
          cases hzz : (tailOf z == tailOf z') with
          | false =>
            have epr : Hid (pr k = pr (k - 1)) := by show _ = _; rw [HPR.out]; exact cnt_no _ k hk1 (by rw [HP'.out]; simp [hx, hy, hzz])
            have etr : Hid (tr k = tr (k - 1)) := by show _ = _; rw [HTR.out]; exact cnt_no _ k hk1 (by rw [HT'.out]; simp [hx, hy, hzz])
            have egr : Hid (gr k = gr (k - 1) + 1) := by show _ = _; rw [HGR.out]; exact cnt_yes _ k hk1 (by rw [HG'.out]; simp [hx, hy, hzz])
            generalize pr (k - 1) = p1 at *
            generalize tr (k - 1) = t1 at *
            generalize gr (k - 1) = q1 at *
            go_wp2
            go_quiet ((go_at_call 19; exact Calls.quiet_of (sameNumber_q x x' _ zx zx')))
            go_wp2
            go_quiet (fail)
            go_wp2
            go_region_held3 (fun w' => w'.cell? ⟨b2, o2 + k, none⟩ = some (.string z) ∧ w'.cell? ⟨b2, o2 + (k - 1), none⟩ = some (.string z')) (((try go_split_ands); refine ⟨?_, ?_⟩ <;> (simp (disch := omega) only [cell_drew, cell_drewN, cell_lt]; assumption))) (first | (go_at_call 19; refine (sameNumber_q z z' _ zz zz').mono ?_; rintro e w' ⟨rfl, nm, rfl⟩))
            go_wp2
            go_roundw
            case rel => exact m1_end hlt (((((HRW.out.putP lt1 lt2 k _).putT lt1 lt2 k _).putG lt1 lt2 k _).drewN _).putG lt1 lt2 k _) (row_same hlt epr.out) (row_same hlt etr.out) (row_up hlt egr.out _) (by repeat (first | exact hbr | refine bset ?_ (by assumption) _ | refine below_drewN ?_ _))
            case measure => simp [intOf]; omega
          | true =>
            have epr : Hid (pr k = pr (k - 1)) := by show _ = _; rw [HPR.out]; exact cnt_no _ k hk1 (by rw [HP'.out]; simp [hx, hy, hzz])
            have etr : Hid (tr k = tr (k - 1)) := by show _ = _; rw [HTR.out]; exact cnt_no _ k hk1 (by rw [HT'.out]; simp [hx, hy, hzz])
            have egr : Hid (gr k = gr (k - 1)) := by show _ = _; rw [HGR.out]; exact cnt_no _ k hk1 (by rw [HG'.out]; simp [hx, hy, hzz])
            generalize pr (k - 1) = p1 at *
            generalize tr (k - 1) = t1 at *
            generalize gr (k - 1) = q1 at *
            go_wp2
            go_quiet ((go_at_call 19; exact Calls.quiet_of (sameNumber_q x x' _ zx zx')))
            go_wp2
            go_quiet (fail)
            go_wp2
            go_region_held3 (fun w' => w'.cell? ⟨b2, o2 + k, none⟩ = some (.string z) ∧ w'.cell? ⟨b2, o2 + (k - 1), none⟩ = some (.string z')) (((try go_split_ands); refine ⟨?_, ?_⟩ <;> (simp (disch := omega) only [cell_drew, cell_drewN, cell_lt]; assumption))) (first | (go_at_call 19; refine (sameNumber_q z z' _ zz zz').mono ?_; rintro e w' ⟨rfl, nm, rfl⟩))
            go_wp2
            go_roundw
            case rel => exact m1_end hlt ((((HRW.out.putP lt1 lt2 k _).putT lt1 lt2 k _).putG lt1 lt2 k _).drewN _) (row_same hlt epr.out) (row_same hlt etr.out) (row_same hlt egr.out) (by repeat (first | exact hbr | refine bset ?_ (by assumption) _ | refine below_drewN ?_ _))
            case measure => simp [intOf]; omega
    · have hnk : n ≤ k := by omega
      rw [fill_over _ _ _ _ (nums_len _ _) hnk, fill_over _ _ _ _ (nums_len _ _) hnk, fill_over _ _ _ _ (nums_len _ _) hnk] at hrows
      have hwP : w.heap.size ≤ P := by rw [HN.out]; omega
      clear g0 g1 g2 z0 z2 hk1 hk2 hnk h0 h1 h2
      have hpc : ∀ j, j < n → pr j ≤ 1024 := fun j hj => by have := HPL.out j; omega
      have htc : ∀ j, j < n → tr j ≤ 1024 := fun j hj => by have := HTL.out j; omega
      have hgc : ∀ j, j < n → gr j ≤ 1024 := fun j hj => by have := HGL.out j; omega
      have HPC : Hid _ := hpc
      have HTC : Hid _ := htc
      have HGC : Hid _ := hgc
      clear hpc htc hgc HPL HTL HGL HPR HTR HGR
      go_wp2_with (at_make; refine wpList_make_full _ rfl (.tmp 119) (.tmp 119) 48 rfl wr.heap.size 4 t4 (.bool false) 1 Tryd.underlying48 hi4 hz40 hz41 .i64 .i64 _ _ n rfl rfl rfl rfl (by rw [hz42]; omega) (by unfold maxLen; omega) (Nat.le_refl _) ?_; intro w4 ho4 hg4)
      have hb4 : Below wr.heap.size wr w4 := (Below.refl _ _).grown hg4 (Nat.le_refl _) (fun k h => by cases h)
      have hrows4 := hrows.below hb4
      have hbw4 := below_step hbr hb4
      have hF : Own w4 wr.heap.size 4 n (fillV (bools (fgOf tr gr) n) (.bool false) n 0) := by
        rw [fillV_zero]
        simpa [toList_madeCells_one, Value.cells] using ho4
      have hGF : G < wr.heap.size := (hrows.g.lt _ rfl).2
      generalize wr.heap.size = F at *
      clear ho4 hg4 hb4 hrows hbr
      go_loopw [16] (fun i wr => M2 P T G F n pr tr gr w i wr) (fun i _ => n - (intOf i).toNat)
      case atStart => exact ⟨0, Nat.zero_le _, rfl, hrows4, hF, hbw4⟩
      case round =>
        clear hrows4 hF hbw4
        obtain ⟨k, hk, rfl, hrows, hF, hbr⟩ := hrel
        by_cases hlt : k < n
        · have i1 : (k : Int) < (n : Int) := by omega
          have fz := hF.frozenAt k
          obtain ⟨of, hof⟩ := someAt hF k (by omega)
          have hwF : w.heap.size ≤ F := by omega
          by_cases hk0 : k = 0
          · have hk0b : ((k : Int) == 0) = true := by simp [hk0]
            have hset := (hF.put k (.bool true))
            rw [set_bools _ n k hlt true (by rw [hk0]; rfl)] at hset
            have hR' := hrows.kept (Kept.setCell (X := [F]) (a := ⟨F, k, none⟩) (by simp) (.bool true)) (by simp; omega) (by simp; omega) (by simp; omega)
            have HFIN : Hid (M2 P T G F n pr tr gr w (.int .i64 ((k : Int) + 1)) (wr.setCell ⟨F, k, none⟩ (.bool true))) := ⟨k + 1, by omega, rfl, hR', hset, bset hbr hwF _⟩
            clear hset hR' hk0
            go_wp2
            go_roundw
            case rel => exact HFIN.out
            case measure => simp [intOf]; omega
          · have hk0b : ((k : Int) == 0) = false := by simp; omega
            have hk1 : 1 ≤ k := by omega
            have cg := hrows.g.at hlt (nums_get gr n k hlt)
            have cg' := hrows.g.at (k := k - 1) (by omega) (nums_get gr n (k - 1) (by omega))
            have ct := hrows.t.at hlt (nums_get tr n k hlt)
            have ct' := hrows.t.at (k := k - 1) (by omega) (nums_get tr n (k - 1) (by omega))
            have cf' := hF.at (k := k - 1) (by omega) ((fill_get _ _ _ _ _ (by omega) (by omega) (bools_len _ _)).trans (bools_get _ n (k - 1) (by omega)))
            have hfg : fgOf tr gr k = if gr k = gr (k - 1) then fgOf tr gr (k - 1) else decide (tr k ≠ tr (k - 1)) := by
              obtain ⟨j, rfl⟩ : ∃ j, k = j + 1 := ⟨k - 1, by omega⟩
              rfl
            have HFG : Hid _ := hfg
            have i2 : (0 : Int) ≤ (k : Int) - 1 := by omega
            have i3 : (k : Int) - 1 < (n : Int) := by omega
            have i4 : (1 : Int) ≤ (k : Int) := by omega
            have hwrap : IntKind.i64.wrap ((k : Int) - 1) = (k : Int) - 1 := IntWalk.i64_in _ ⟨by omega, by omega⟩
            clear hfg hk0
            have hfin : ∀ b : Bool, fgOf tr gr k = b → ∀ q, M2 P T G F n pr tr gr w (.int .i64 ((k : Int) + 1)) ((wr.setCell ⟨F, k, none⟩ (.bool b)).drewN q) := by
              intro b hb q
              have hset := (hF.put k (.bool b))
              rw [set_bools _ n k hlt b hb] at hset
              exact ⟨k + 1, by omega, rfl, (hrows.kept (Kept.setCell (X := [F]) (a := ⟨F, k, none⟩) (by simp) (.bool b)) (by simp; omega) (by simp; omega) (by simp; omega)).drewN q, hset, below_drewN (bset hbr hwF _) q⟩
            have HFIN : Hid _ := hfin
            clear hfin
            by_cases hgg : gr k = gr (k - 1)
            · have hgb : ((gr k : Int) == (gr (k - 1) : Int)) = true := by simp [hgg]
              have hval : fgOf tr gr k = fgOf tr gr (k - 1) := by rw [HFG.out, if_pos hgg]
              have HV : Hid _ := hval
              clear hgg hval
              generalize fgOf tr gr (k - 1) = fb at *
              generalize gr k = gk at *
              generalize gr (k - 1) = gk' at *
              go_wp2
              go_quiet (fail)
              go_wp2
              go_roundw
              case rel => exact HFIN.out fb HV.out nq
              case measure => simp [intOf]; omega
            · have hgb : ((gr k : Int) == (gr (k - 1) : Int)) = false := by simp; omega
              have hval : fgOf tr gr k = decide (tr k ≠ tr (k - 1)) := by rw [HFG.out, if_neg hgg]
              have HV : Hid (fgOf tr gr k = ((tr k : Int) != (tr (k - 1) : Int))) := by
                show _ = _
                rw [hval]
                by_cases e : tr k = tr (k - 1)
                · simp [e]
                · have : (tr k : Int) ≠ (tr (k - 1) : Int) := by omega
                  simp [e, this]
              clear hgg hval HFG
              generalize gr k = gk at *
              generalize gr (k - 1) = gk' at *
              generalize tr k = tk at *
              generalize tr (k - 1) = tk' at *
              have hTF : T < F := by omega
              generalize hbb : ((tk : Int) != (tk' : Int)) = bb at *
              go_wp2
              go_quiet (fail)
              go_wp2
              go_region_held3 (fun w' => w'.cell? ⟨T, k, none⟩ = some (.int .i64 (tk : Int)) ∧ w'.cell? ⟨T, k - 1, none⟩ = some (.int .i64 (tk' : Int))) (((try go_split_ands); refine ⟨?_, ?_⟩ <;> (simp (disch := omega) only [cell_drew, cell_drewN, cell_lt]; assumption))) (fail)
              go_wp2
              go_roundw
              case rel => exact HFIN.out bb HV.out (nq + 1)
              case measure => simp [intOf]; omega
        · have hkn : k = n := by omega
          subst hkn
          rw [fillV_full _ _ _ (bools_len _ _)] at hF
          go_wp2_with (at_make; refine wpList_make_full _ rfl (.tmp 162) (.tmp 162) 48 rfl wr.heap.size 4 t4 (.bool false) 1 Tryd.underlying48 hi4 hz40 hz41 .i64 .i64 _ _ k rfl rfl rfl rfl (by rw [hz42]; omega) (by unfold maxLen; omega) (Nat.le_refl _) ?_; intro w5 ho5 hg5)
          have hb5 : Below wr.heap.size wr w5 := (Below.refl _ _).grown hg5 (Nat.le_refl _) (fun k h => by cases h)
          have hrows5 := hrows.below hb5
          have hF5 : Own w5 F 4 k (bools (fgOf tr gr) k) := owns_later hF hb5
          have hbw5 := below_step hbr hb5
          have hL : Own w5 wr.heap.size 4 k (fillR (bools (lgOf tr gr k) k) (.bool false) k 0) := by
            rw [fillR_zero _ _ _ (bools_len _ _)]
            simpa [toList_madeCells_one, Value.cells] using ho5
          have hFL : F < wr.heap.size := (hF.lt _ rfl).2
          generalize wr.heap.size = L at *
          clear ho5 hg5 hb5 hrows hbr hF hlt hk
          go_loopw [18] (fun i wr => M3 P T G F L k pr tr gr w i wr) (fun i _ => (intOf i + 1).toNat)
          case atStart => exact ⟨0, Nat.zero_le _, by simp, hrows5, hF5, hL, hbw5⟩
          case round =>
            clear hrows5 hF5 hL hbw5
            obtain ⟨d, hd, rfl, hrows, hF, hL, hbr⟩ := hrel
            by_cases hlt : d < k
            · obtain ⟨q, hq⟩ : ∃ q : Nat, q = k - 1 - d := ⟨_, rfl⟩
              have hqi : (k : Int) - 1 - (d : Int) = (q : Int) := by omega
              rw [hqi]
              have hqd : q + d + 1 = k := by omega
              have HQ : Hid (q = k - 1 - d) := hq
              have HQI : Hid _ := hqi
              have HQD : Hid _ := hqd
              have hqk : q < k := by omega
              have j1 : (0 : Int) ≤ (q : Int) := by omega
              have j2 : (q : Int) < (k : Int) := by omega
              have fz := hL.frozenAt q
              obtain ⟨ol, hol⟩ := someAt hL q (by omega)
              have hwL : w.heap.size ≤ L := by omega
              have hfin : ∀ b : Bool, lgOf tr gr k q = b → ∀ nn, M3 P T G F L k pr tr gr w (.int .i64 ((q : Int) - 1)) ((wr.setCell ⟨L, q, none⟩ (.bool b)).drewN nn) := by
                intro b hb nn
                have hset := (hL.put q (.bool b))
                have he : (fillR (bools (lgOf tr gr k) k) (.bool false) k d).set q (.bool b) = fillR (bools (lgOf tr gr k) k) (.bool false) k (d + 1) := by
                  have := fillR_set (bools (lgOf tr gr k) k) (.bool false) (.bool b) k d hlt (bools_len _ _) (by rw [← HQ.out, ← hb]; exact bools_get _ _ _ hqk)
                  rw [← HQ.out] at this
                  exact this
                rw [he] at hset
                have hkL : Kept [L] wr (wr.setCell ⟨L, q, none⟩ (.bool b)) := Kept.setCell (X := [L]) (a := ⟨L, q, none⟩) (by simp) (.bool b)
                have hF2 := hF.kept hkL (by simp; omega)
                refine ⟨d + 1, by omega, ?_, (hrows.kept hkL (by simp; omega) (by simp; omega) (by simp; omega)).drewN nn, hF2, hset, below_drewN (bset hbr hwL _) nn⟩
                congr 1
                rw [← HQI.out]
                omega
              have HFIN : Hid _ := hfin
              clear hfin hq hqi hqd
              by_cases hd0 : d = 0
              · have hb0 : ((q : Int) == (k : Int) - 1) = true := by have := HQD.out; simp; omega
                have HV : Hid (lgOf tr gr k q = true) := by
                  show _ = _
                  unfold lgOf
                  rw [show k - 1 - q = 0 by have := HQD.out; omega]
                  rfl
                clear hd0
                go_wp2
                go_roundw
                case rel => exact HFIN.out true HV.out 0
                case measure => first | (simp [intOf]; done) | (simp [intOf]; omega)
              · have hb0 : ((q : Int) == (k : Int) - 1) = false := by have := HQD.out; simp; omega
                have hq1 : q + 1 < k := by have := HQD.out; omega
                have cg := hrows.g.at hqk (nums_get gr k q hqk)
                have cg' := hrows.g.at (k := q + 1) hq1 (nums_get gr k (q + 1) hq1)
                have ct := hrows.t.at hqk (nums_get tr k q hqk)
                have ct' := hrows.t.at (k := q + 1) hq1 (nums_get tr k (q + 1) hq1)
                have cl' := hL.at (k := q + 1) hq1 ((fillR_get _ _ _ _ _ (by have := HQD.out; omega) (bools_len _ _)).trans (bools_get _ k (q + 1) hq1))
                have hlg : lgOf tr gr k q = if gr (q + 1) = gr q then lgOf tr gr k (q + 1) else decide (tr (q + 1) ≠ tr q) := by
                  obtain ⟨e, he⟩ : ∃ e, d = e + 1 := ⟨d - 1, by omega⟩
                  have h1 : k - 1 - q = e + 1 := by have := HQD.out; omega
                  have h2 : k - 1 - (q + 1) = e := by have := HQD.out; omega
                  have h3 : k - 1 - e = q + 1 := by have := HQD.out; omega
                  have h4 : k - 1 - (e + 1) = q := by have := HQD.out; omega
                  unfold lgOf
                  rw [h1, h2]
                  show (if gr (k - 1 - e) = gr (k - 1 - (e + 1)) then _ else _) = _
                  rw [h3, h4]
                have HLG : Hid _ := hlg
                have i2 : (0 : Int) ≤ (q : Int) + 1 := by omega
                have i3 : (q : Int) + 1 < (k : Int) := by omega
                have hwrap : IntKind.i64.wrap ((q : Int) + 1) = (q : Int) + 1 := IntWalk.i64_in _ ⟨by omega, by omega⟩
                clear hlg hd0
                by_cases hgg : gr (q + 1) = gr q
                · have hgb : ((gr (q + 1) : Int) == (gr q : Int)) = true := by simp [hgg]
                  have hval : lgOf tr gr k q = lgOf tr gr k (q + 1) := by rw [HLG.out, if_pos hgg]
                  have HV : Hid _ := hval
                  clear hgg hval HLG
                  generalize lgOf tr gr k (q + 1) = lb at *
                  generalize gr (q + 1) = gk at *
                  generalize gr q = gk' at *
                  go_wp2
                  go_quiet (fail)
                  go_wp2
                  go_roundw
                  case rel => exact HFIN.out lb HV.out nq
                  case measure => first | (simp [intOf]; done) | (simp [intOf]; omega)
                · have hgb : ((gr (q + 1) : Int) == (gr q : Int)) = false := by simp; omega
                  have hval : lgOf tr gr k q = decide (tr (q + 1) ≠ tr q) := by rw [HLG.out, if_neg hgg]
                  have HV : Hid (lgOf tr gr k q = ((tr (q + 1) : Int) != (tr q : Int))) := by
                    show _ = _
                    rw [hval]
                    by_cases e : tr (q + 1) = tr q
                    · simp [e]
                    · have : (tr (q + 1) : Int) ≠ (tr q : Int) := by omega
                      simp [e, this]
                  clear hgg hval HLG
                  generalize gr (q + 1) = gk at *
                  generalize gr q = gk' at *
                  generalize tr (q + 1) = tk at *
                  generalize tr q = tk' at *
                  have hTL : T < L := by omega
                  generalize hbb : ((tk : Int) != (tk' : Int)) = bb at *
                  go_wp2
                  go_quiet (fail)
                  go_wp2
                  go_region_held3 (fun w' => w'.cell? ⟨T, q + 1, none⟩ = some (.int .i64 (tk : Int)) ∧ w'.cell? ⟨T, q, none⟩ = some (.int .i64 (tk' : Int))) (((try go_split_ands); refine ⟨?_, ?_⟩ <;> (simp (disch := omega) only [cell_drew, cell_drewN, cell_lt]; assumption))) (fail)
                  go_wp2
                  go_roundw
                  case rel => exact HFIN.out bb HV.out (nq + 1)
                  case measure => first | (simp [intOf]; done) | (simp [intOf]; omega)
            · have hdk : d = k := by omega
              subst hdk
              rw [fillR_full] at hL
              go_wp2_with (at_make; refine wpList_make_full _ rfl (.tmp 208) (.tmp 208) 26 rfl wr.heap.size 35 t35 (.slice none 0 0) 1 Tryd.underlying26 hi35 hz350 hz351 .i64 .i64 _ _ d rfl rfl rfl rfl (by rw [hz352]; omega) (by unfold maxLen; omega) (Nat.le_refl _) ?_; intro w6 ho6 hg6)
              have hb6 : Below wr.heap.size wr w6 := (Below.refl _ _).grown hg6 (Nat.le_refl _) (fun k h => by cases h)
              have hrows6 := hrows.below hb6
              have hF6 : Own w6 F 4 d (bools (fgOf tr gr) d) := owns_later hF hb6
              have hL6 : Own w6 L 4 d (bools (lgOf tr gr d) d) := owns_later hL hb6
              have hbw6 := below_step hbr hb6
              have hW : Deps wr.heap.size d [wr.heap.size] w6 (fillL (modelOf pr tr gr d) d 0) := by
                rw [fillL_zero]
                exact ⟨List.replicate d (.slice none 0 0), by simpa [toList_madeCells_one, Value.cells] using ho6, RowsSee.zeros _ _ _⟩
              have hLW : L < wr.heap.size := (hL.lt _ rfl).2
              generalize wr.heap.size = W at *
              clear ho6 hg6 hb6 hrows hbr hF hL hlt hd
              go_loopw [20] (fun i wr => M4 W d pr tr gr w w6 i wr) (fun i _ => d - (intOf i).toNat)
              case atStart => exact ⟨0, Nat.zero_le _, rfl, hW, Kept.refl _ _, hbw6⟩
              case round =>
                clear hW hbw6
                rename World => W4
                obtain ⟨i, hi, rfl, hdeps, hk4, hb4⟩ := hrel
                by_cases hlt : i < d
                · have hrowsI := hrows6.kept hk4 (by simp; omega) (by simp; omega) (by simp; omega)
                  have hFI := hF6.kept hk4 (by simp; omega)
                  have hLI := hL6.kept hk4 (by simp; omega)
                  have hWs := hdeps.lt
                  have hbs := hb4.size
                  have j1 : (i : Int) < (d : Int) := by omega
                  have j0 : (0 : Int) ≤ (i : Int) := by omega
                  go_wp2
                  go_loopw [21, 22] (fun v j wr => M5 W d (dep pr tr gr d i) (fillL (modelOf pr tr gr d) d i) w W4 v j wr) (fun _ j _ => d - (intOf j).toNat)
                  case atStart => exact ⟨0, [], Nat.zero_le _, rfl, by simp, by simpa using hdeps, World.ownsRow_nil _ _ _ _, fun e he => by simp [Value.ownBlock] at he, Kept.refl _ _, hb4⟩
                  case round =>
                    clear hdeps hb4
                    obtain ⟨j, E, hj, rfl, hE, hdeps, hown, hvE, hk5, hb5⟩ := hrel
                    by_cases hltj : j < d
                    · have rI := hrowsI.kept hk5 (by simp) (by simp) (by simp)
                      have cpi := rI.p.at hlt (nums_get pr d i hlt)
                      have cti := rI.t.at hlt (nums_get tr d i hlt)
                      have cgi := rI.g.at hlt (nums_get gr d i hlt)
                      have cpj := rI.p.at hltj (nums_get pr d j hltj)
                      have ctj := rI.t.at hltj (nums_get tr d j hltj)
                      have cgj := rI.g.at hltj (nums_get gr d j hltj)
                      have cfi := (hFI.kept hk5 (by simp)).at hlt (bools_get (fgOf tr gr) d i hlt)
                      have clj := (hLI.kept hk5 (by simp)).at hltj (bools_get (lgOf tr gr d) d j hltj)
                      have hdep : dep pr tr gr d i j = if fgOf tr gr i then decide (pr j + 1 = pr i) && lgOf tr gr d j else decide (tr j = tr i) && decide (gr j + 1 = gr i) := rfl
                      have bpi := HPC.out i hlt
                      have bgi := HGC.out i hlt
                      have j2 : (j : Int) < (d : Int) := by omega
                      have j3 : (0 : Int) ≤ (j : Int) := by omega
                      have hlen : ((List.range j).filter (dep pr tr gr d i)).length ≤ j := by have := List.length_filter_le (dep pr tr gr d i) (List.range j); simpa using this
                      have wpi : IntKind.i64.wrap ((pr i : Int) - 1) = (pr i : Int) - 1 := IntWalk.i64_in _ ⟨by omega, by omega⟩
                      have wgi : IntKind.i64.wrap ((gr i : Int) - 1) = (gr i : Int) - 1 := IntWalk.i64_in _ ⟨by omega, by omega⟩
                      have hskip := fun (hp : dep pr tr gr d i j = false) nn => m5_skip hltj hp hE hdeps hown hvE hk5 hb5 nn
                      have happ := fun (hp : dep pr tr gr d i j = true) => m5_app hltj hp hE hdeps hown hvE hk5 hb5 hWs hbs
                      have HDEP : Hid _ := hdep
                      have HSKIP : Hid _ := hskip
                      have HAPP : Hid _ := happ
                      have hbase : W4.heap.size ≤ wr.heap.size := hk5.size
                      clear rI hdep hskip happ
                      have hpp : ((pr j : Int) == (pr i : Int) - 1) = decide (pr j + 1 = pr i) := by
                        rw [Bool.eq_iff_iff]; simp; omega
                      have htt : ((tr j : Int) == (tr i : Int)) = decide (tr j = tr i) := by
                        rw [Bool.eq_iff_iff]; simp; omega
                      have hgg : ((gr j : Int) == (gr i : Int) - 1) = decide (gr j + 1 = gr i) := by
                        rw [Bool.eq_iff_iff]; simp; omega
                      generalize decide (pr j + 1 = pr i) = bp at *
                      generalize decide (tr j = tr i) = bt1 at *
                      generalize decide (gr j + 1 = gr i) = bg at *
                      generalize fgOf tr gr i = ff at *
                      generalize lgOf tr gr d j = ll at *
                      generalize pr i = pi at *
                      generalize pr j = pj at *
                      generalize tr i = ti at *
                      generalize tr j = tj at *
                      generalize gr i = gi at *
                      generalize gr j = gj at *
                      cases ff with
                      | true =>
                        cases bp with
                        | true =>
                          cases ll with
                          | true =>
                            have HV : Hid (dep pr tr gr d i j = true) := by show _ = _; rw [HDEP.out]; rfl
                            clear HDEP HSKIP
                            go_wp2
                            go_quiet (fail)
                            go_wp2_with (at_builtin; refine wpList_append_own_at _ rfl _ _ 35 rfl W4.heap.size 3 t3 (.int .i64 0) 1 8 Tryd.underlying35 hi3 hz30 hz31 hz32 rfl (by decide) _ _ _ rfl ((show World.ownsRow (wr.drewN nq) _ _ _ _ _ _ from hown).alloc _) ⟨_, 0, none⟩ 1 1 [.int .i64 (j : Int)] rfl rfl ?c1 ?c2 ?c3 ?c4 ?c5 ?_)
                            case c1 => exact cell_one_new _ _ _
                            case c2 => intro u hu; simp at hu; subst hu; rfl
                            case c3 => unfold maxLen; omega
                            case c4 => omega
                            case c5 => simp; omega
                            · intro v' w7 hown' hgrow _ hat
                              have HF7 : Hid _ := HAPP.out HV.out nq _ v' w7 hown' hgrow hat
                              clear hown' hgrow hat
                              go_wp2
                              go_roundw
                              case rel => exact HF7.out
                              case measure => simp [intOf]; omega
                          | false =>
                            have HV : Hid (dep pr tr gr d i j = false) := by show _ = _; rw [HDEP.out]; rfl
                            clear HDEP HAPP
                            go_wp2
                            go_quiet (fail)
                            go_wp2
                            go_roundw
                            case rel => exact HSKIP.out HV.out nq
                            case measure => simp [intOf]; omega
                        | false =>
                          have HV : Hid (dep pr tr gr d i j = false) := by show _ = _; rw [HDEP.out]; rfl
                          clear HDEP HAPP
                          go_wp2
                          go_quiet (fail)
                          go_wp2
                          go_roundw
                          case rel => exact HSKIP.out HV.out nq
                          case measure => simp [intOf]; omega
                      | false =>
                        cases bt1 with
                        | true =>
                          cases bg with
                          | true =>
                            have HV : Hid (dep pr tr gr d i j = true) := by show _ = _; rw [HDEP.out]; rfl
                            clear HDEP HSKIP
                            go_wp2
                            go_quiet (fail)
                            go_wp2_with (at_builtin; refine wpList_append_own_at _ rfl _ _ 35 rfl W4.heap.size 3 t3 (.int .i64 0) 1 8 Tryd.underlying35 hi3 hz30 hz31 hz32 rfl (by decide) _ _ _ rfl ((show World.ownsRow (wr.drewN nq) _ _ _ _ _ _ from hown).alloc _) ⟨_, 0, none⟩ 1 1 [.int .i64 (j : Int)] rfl rfl ?c1 ?c2 ?c3 ?c4 ?c5 ?_)
                            case c1 => exact cell_one_new _ _ _
                            case c2 => intro u hu; simp at hu; subst hu; rfl
                            case c3 => unfold maxLen; omega
                            case c4 => omega
                            case c5 => simp; omega
                            · intro v' w7 hown' hgrow _ hat
                              have HF7 : Hid _ := HAPP.out HV.out nq _ v' w7 hown' hgrow hat
                              clear hown' hgrow hat
                              go_wp2
                              go_roundw
                              case rel => exact HF7.out
                              case measure => simp [intOf]; omega
                          | false =>
                            have HV : Hid (dep pr tr gr d i j = false) := by show _ = _; rw [HDEP.out]; rfl
                            clear HDEP HAPP
                            go_wp2
                            go_quiet (fail)
                            go_wp2
                            go_roundw
                            case rel => exact HSKIP.out HV.out nq
                            case measure => simp [intOf]; omega
                        | false =>
                          have HV : Hid (dep pr tr gr d i j = false) := by show _ = _; rw [HDEP.out]; rfl
                          clear HDEP HAPP
                          go_wp2
                          go_quiet (fail)
                          go_wp2
                          go_roundw
                          case rel => exact HSKIP.out HV.out nq
                          case measure => simp [intOf]; omega
                    · have hjd : j = d := by omega
                      subst hjd
                      obtain ⟨aD, capD, hvD, hcD, hsD⟩ := Sees.of_owns (X := [W]) hown (fun g hg hx => by have := (hown.lt g hg).1; simp at hx; omega)
                      have hd2 := hdeps.fewer (Y := [W]) (by simp)
                      have hst := hd2.store (by simp) i hcD hsD
                      have hfr := hd2.free i
                      obtain ⟨old, hold⟩ := hd2.there i hlt
                      have hwW : w.heap.size ≤ W := by omega
                      have hfin : M4 W j pr tr gr w w6 (.int .i64 ((i : Int) + 1)) (wr.setCell ⟨W, i, none⟩ (.slice aD ((List.range j).filter (dep pr tr gr j i)).length capD)) := by
                        refine ⟨i + 1, by omega, rfl, ?_, (hk4.trans (hk5.mono (by simp))).trans (Kept.setCell (by simp) _), bset hb5 hwW _⟩
                        rw [← fillL_set _ (wantOf pr tr gr j i) _ _ (model_len _ _ _ _) (model_get _ _ _ _ _ hlt)]
                        exact hst
                      have HFIN : Hid _ := hfin
                      rw [hvD]
                      clear hvD hfin hst hd2 hsD hcD hown hdeps hvE
                      go_wp2
                      go_roundw
                      case rel => exact HFIN.out
                      case measure => simp [intOf]; omega
                · have hid : i = d := by omega
                  subst hid
                  rw [fillL_full _ _ (model_len _ _ _ _)] at hdeps
                  obtain ⟨xs, hx1, hx2⟩ := hdeps
                  obtain ⟨aR, capR, eR, hcR, hsR⟩ := Sees.of_owns (X := []) hx1 (fun g hg => by simp)
                  simp only [Value.slice.injEq, true_and] at eR
                  obtain ⟨rfl, rfl⟩ := eR
                  have hfin : CutRes [] w (modelOf pr tr gr i) (.returned (.slice (some ⟨W, 0, none⟩) i i)) W4 := ⟨_, i, xs, by rw [model_len], hsR, hx2.fewer (by simp), hb4⟩
                  have HFIN : Hid _ := hfin
                  clear hfin hx1 hx2 hsR hcR
                  go_wp2
                  go_ret
                  exact HFIN.out
end Go.Proofs.Qxb6600314aDoor
