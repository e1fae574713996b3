/-
  Seat b6600314aD: the law FnByNumberGraphIsAcyclic. By an AI agent (seat 043).
-/
import Derived.Test.Qxb6600314aDoorC3
import Derived.Test.Qxb6600314aDoorTopA
set_option linter.unusedSimpArgs false
set_option linter.unusedVariables false
namespace Go.Proofs.Qxb6600314aDoor
open Go.RowKit

set_option maxHeartbeats 1000000 in
theorem zzBytes15_any (a0 a1 a2 : Option Addr) (n0 n1 n2 c0 c1 c2 : Nat) (s0 s1 s2 : List ByteArray) (w : World)
    (h0 : s0.length = n0) (h1 : s1.length = n1) (h2 : s2.length = n2) (m0 : n0 ≤ 9223372036854775807) (m1 : n1 ≤ 9223372036854775807) (m2 : n2 ≤ 9223372036854775807)
    (g0 : StrAt w a0 s0) (g1 : StrAt w a1 s1) (g2 : StrAt w a2 s2) :
    Calls Tryd.prog 15 #[.slice a0 n0 c0, .slice a1 n1 c1, .slice a2 n2 c2] w fun e w' => SomeBool e ∧ w' = w := by
  go_enter Tryd.func15, Tryd.ntmps15
  go_wp2
  all_goals try (go_ret; exact ⟨⟨_, rfl⟩, rfl⟩)
  go_loop [7, 8] (fun u i => ∃ (x : Int) (k : Nat), k ≤ n0 ∧ 0 ≤ x ∧ x ≤ 1048576 ∧ u = .int .i64 x ∧ i = .int .i64 k) (fun _ i => n0 - (intOf i).toNat)
  case atStart => exact ⟨_, 0, Nat.zero_le _, by omega, by omega, rfl, rfl⟩
  case round =>
    obtain ⟨x, k, hk, hx0, hx1, rfl, rfl⟩ := hrel
    by_cases hlt : k < n0
    · obtain ⟨b, off, ha, hcell⟩ := g0 k (s0[k]'(by omega)) (by simp [h0, hlt])
      subst ha
      go_wp2
      all_goals first
        | (go_ret; exact ⟨⟨_, rfl⟩, rfl⟩)
        | (go_round; (case rel => exact ⟨_, k + 1, by omega, by omega, by omega, rfl, by go_num⟩); (case measure => simp [intOf]; omega))
    · go_wp2
      all_goals try (go_ret; exact ⟨⟨_, rfl⟩, rfl⟩)
      go_loop [7, 9] (fun u i => ∃ (x : Int) (k : Nat), k ≤ n1 ∧ 0 ≤ x ∧ x ≤ 1048576 ∧ u = .int .i64 x ∧ i = .int .i64 k) (fun _ i => n1 - (intOf i).toNat)
      case atStart => exact ⟨_, 0, Nat.zero_le _, by omega, by omega, rfl, rfl⟩
      case round =>
        obtain ⟨x, k, hk, hx0, hx1, rfl, rfl⟩ := hrel
        by_cases hlt : k < n1
        · obtain ⟨b, off, ha, hcell⟩ := g1 k (s1[k]'(by omega)) (by simp [h1, hlt])
          subst ha
          go_wp2
          all_goals first
            | (go_ret; exact ⟨⟨_, rfl⟩, rfl⟩)
            | (go_round; (case rel => exact ⟨_, k + 1, by omega, by omega, by omega, rfl, by go_num⟩); (case measure => simp [intOf]; omega))
        · go_wp2
          all_goals try (go_ret; exact ⟨⟨_, rfl⟩, rfl⟩)
          go_loop [7, 10] (fun u i => ∃ (x : Int) (k : Nat), k ≤ n2 ∧ 0 ≤ x ∧ x ≤ 1048576 ∧ u = .int .i64 x ∧ i = .int .i64 k) (fun _ i => n2 - (intOf i).toNat)
          case atStart => exact ⟨_, 0, Nat.zero_le _, by omega, by omega, rfl, rfl⟩
          case round =>
            obtain ⟨x, k, hk, hx0, hx1, rfl, rfl⟩ := hrel
            by_cases hlt : k < n2
            · obtain ⟨b, off, ha, hcell⟩ := g2 k (s2[k]'(by omega)) (by simp [h2, hlt])
              subst ha
              go_wp2
              all_goals first
                | (go_ret; exact ⟨⟨_, rfl⟩, rfl⟩)
                | (go_round; (case rel => exact ⟨_, k + 1, by omega, by omega, by omega, rfl, by go_num⟩); (case measure => simp [intOf]; omega))
            · go_wp2
              all_goals try (go_ret; exact ⟨⟨_, rfl⟩, rfl⟩)

set_option maxHeartbeats 400000 in
theorem zzcomponents_any (a : Option Addr) (cap : Nat) (xs : List Value) (R : List (List Nat)) (n : Nat) (w : World) (hR : R.length = n) (hn : n ≤ 1024) (hlen : ∀ x ∈ R, x.length ≤ 1024) (hback : ∀ (i : Nat) (x : List Nat), R[i]? = some x → ∀ j ∈ x, j < i)
    (ha : Sees w [] a xs) (hr : RowsSee w [] xs R) :
    Calls Tryd.prog 16 #[.slice a n cap] w fun e w' => IntRes [] w (List.range n) e w' := by
  go_enter Tryd.func16, Tryd.ntmps16
  go_wp2_with fail
  refine (components_any a cap xs R n w hR hn hlen hback ha hr).mono ?_
  rintro e w' ⟨a1, c1, rfl, h1, h2, h3⟩
  go_wp2
  go_ret
  exact ⟨a1, c1, by simp, h1, h2, h3⟩

theorem dep_back (np nt ng : Nat → Bool) (n i j : Nat) (h : dep (cnt np) (cnt nt) (cnt ng) n i j = true) : j < i := by
  unfold dep at h
  apply Nat.lt_of_not_le
  intro hle
  split at h
  · simp only [Bool.and_eq_true, decide_eq_true_eq] at h
    have := cnt_mono np hle
    omega
  · simp only [Bool.and_eq_true, decide_eq_true_eq] at h
    have := cnt_mono ng hle
    omega
/-- Each list leads back, and climbs. -/
structure Fine (R : List (List Nat)) : Prop where
  back : ∀ (i : Nat) (x : List Nat), R[i]? = some x → ∀ j ∈ x, j < i
  up : ∀ (i : Nat) (x : List Nat), R[i]? = some x → ∀ (k u v : Nat), x[k]? = some u → x[k + 1]? = some v → u < v
theorem fine_model (np nt ng : Nat → Bool) (n : Nat) : Fine (modelOf (cnt np) (cnt nt) (cnt ng) n) := by
  refine ⟨fun i x hx j hj => ?_, fun i x hx k u v hu hv => ?_⟩
  · have hi := (List.getElem?_eq_some_iff.1 hx).1
    rw [model_len] at hi
    rw [model_get _ _ _ _ _ hi] at hx
    cases hx
    simp only [wantOf, List.mem_filter] at hj
    exact dep_back np nt ng n i j hj.2
  · have hi := (List.getElem?_eq_some_iff.1 hx).1
    rw [model_len] at hi
    rw [model_get _ _ _ _ _ hi] at hx
    cases hx
    have hp : (wantOf (cnt np) (cnt nt) (cnt ng) n i).Pairwise (· < ·) := List.Pairwise.filter _ List.pairwise_lt_range
    obtain ⟨h1, e1⟩ := List.getElem?_eq_some_iff.1 hu
    obtain ⟨h2, e2⟩ := List.getElem?_eq_some_iff.1 hv
    have := List.pairwise_iff_getElem.1 hp k (k + 1) h1 h2 (by omega)
    rw [e1, e2] at this
    exact this

def CKRel (m : Nat) (w : World) (i : Value) (wr : World) : Prop := ∃ k : Nat, k ≤ m ∧ i = .int .i64 (k : Int) ∧ Quiet w wr

set_option maxRecDepth 100000 in
set_option maxHeartbeats 2000000 in
theorem law5 (a0 a1 a2 : Option Addr) (n0 n1 n2 c0 c1 c2 : Nat) (s0 s1 s2 : List ByteArray) (w : World)
    (h0 : s0.length = n0) (h1 : s1.length = n1) (h2 : s2.length = n2) (m0 : n0 ≤ 9223372036854775807) (m1 : n1 ≤ 9223372036854775807) (m2 : n2 ≤ 9223372036854775807)
    (e0 : a0 = none → n0 = 0) (e1 : a1 = none → n1 = 0) (e2 : a2 = none → n2 = 0) (z0 : ∀ s ∈ s0, s.size ≤ 9223372036854775807) (z2 : ∀ s ∈ s2, s.size ≤ 9223372036854775807)
    (g0 : StrAt w a0 s0) (g1 : StrAt w a1 s1) (g2 : StrAt w a2 s2) :
    Calls Tryd.prog 5 #[.slice a0 n0 c0, .slice a1 n1 c1, .slice a2 n2 c2] w fun e w' => Good w e w' := by
  go_enter Tryd.func5, Tryd.ntmps5
  go_wp2_with fail
  refine (zzBytes15_any a0 a1 a2 n0 n1 n2 c0 c1 c2 s0 s1 s2 w h0 h1 h2 m0 m1 m2 g0 g1 g2).mono ?_
  rintro e w' ⟨⟨r, rfl⟩, hw⟩
  subst hw
  cases r with
  | false =>
    go_wp2
    go_ret
    exact ⟨rfl, Below.refl _ _⟩
  | true =>
    go_wp2_with fail
    refine (idsBytes_any a0 a1 a2 n0 n1 n2 c0 c1 c2 s0 s1 s2 _ h0 h1 h2 m0 m1 m2 g0 g1 g2).mono ?_
    rintro e w' ⟨⟨tot, rfl⟩, hw⟩
    subst hw
    by_cases ht : 1048576 < tot
    · go_wp2
      go_ret
      exact ⟨rfl, Below.refl _ _⟩
    · by_cases hbad : 1024 < n0 ∨ 1024 < n1 ∨ 1024 < n2 ∨ n1 ≠ n0 ∨ n2 ≠ n0
      · go_wp2_with fail
        all_goals first | (go_ret; exact ⟨rfl, Below.refl _ _⟩) | (exfalso; omega)
      · have l0 : n0 ≤ 1024 := by omega
        have l1 : n1 = n0 := by omega
        have l2 : n2 = n0 := by omega
        subst l1
        subst l2
        clear hbad
        go_wp2_with fail
        refine (cloneStrings_any a0 _ c0 s0 _ h0 l0 e0 g0).mono ?_
        rintro e w1 ⟨v0, rfl, ho0, hb1⟩
        obtain ⟨a0', c0', rfl, q0⟩ := strAt_of_owns ho0
        go_wp2_with fail
        refine (cloneStrings_any a1 _ c1 s1 _ h1 l0 e1 (strAt_later g1 hb1)).mono ?_
        rintro e w2 ⟨v1, rfl, ho1, hb2⟩
        obtain ⟨a1', c1', rfl, q1⟩ := strAt_of_owns ho1
        go_wp2_with fail
        refine (cloneStrings_any a2 _ c2 s2 _ h2 l0 e2 (strAt_later (strAt_later g2 hb1) hb2)).mono ?_
        rintro e w3 ⟨v2, rfl, ho2, hb3⟩
        obtain ⟨a2', c2', rfl, q2⟩ := strAt_of_owns ho2
        have p0 := strAt_later (strAt_later q0 hb2) hb3
        have p1 := strAt_later q1 hb3
        clear g0 g1 g2 ho0 ho1 ho2 q0 q1
        go_wp2_with fail
        refine (sprintsOf_any a0' a1' a2' _ c0' c1' c2' s0 s1 s2 (idsOf s0 s1 s2 _) _ l0 h0 h1 h2 ?_ (ids_len _ _ _ _) p0 p1 q2).mono ?_
        · intro j id hj
          have hjn := (List.getElem?_eq_some_iff.1 hj).1
          rw [ids_len] at hjn
          rw [ids_get _ _ _ _ _ hjn] at hj
          cases hj
          exact ⟨get_some (by omega), get_some (by omega), get_some (by omega)⟩
        rintro e w4 ⟨S, rfl, hspr, hb4⟩
        go_wp2_with fail
        refine (zzbyNumber_any S 0 _ _ (idsOf s0 s1 s2 _) _ (ids_len _ _ _ _) l0 hspr).mono ?_
        rintro e w5 ⟨aA, capA, xsA, rfl, hsA, hrA, hb5⟩
        have hm := byNum_model (marks s0 s1 s2 s2.length)
        rw [h2] at hm
        have hlens := byNum_lens (keyAt (fun i => canon i.p) (idsOf s0 s1 s2 n2)) (keyAt (fun i => i.l) (idsOf s0 s1 s2 n2)) (keyAt (fun i => canon i.s) (idsOf s0 s1 s2 n2)) (isP s0) (isT s0 s1) (isG s0 s1 s2) n2
        have hml := model_len (cnt (isP s0)) (cnt (isT s0 s1)) (cnt (isG s0 s1 s2)) n2
        have hfine := fine_model (isP s0) (isT s0 s1) (isG s0 s1 s2) n2
        rw [hm] at hrA ⊢
        generalize modelOf (cnt (isP s0)) (cnt (isT s0 s1)) (cnt (isG s0 s1 s2)) n2 = R at *
        have hbw := below_step (below_step (below_step (below_step hb1 hb2) hb3) hb4) hb5
        have hlens' : ∀ x ∈ R, x.length ≤ 1024 := fun x hx => Nat.le_trans (hlens x hx) l0
        have hmlI : (((R.length : Nat) : Int) != ((n2 : Nat) : Int)) = false := by rw [bne_eq_false_iff_eq, hml]
        clear hm p0 p1 q2 hspr hb1 hb2 hb3 hb4 hb5 hlens z0 z2
        have hRl : R.length ≤ 1024 := by omega
        have HML : Hid (R.length = n2) := hml
        have HF : Hid (Fine R) := hfine
        have HL : Hid (∀ x ∈ R, x.length ≤ 1024) := hlens'
        have HBW : Hid _ := hbw
        clear hml hfine hlens' hbw
        go_wp2
        go_loopw [8] (fun i wr => CKRel R.length w5 i wr) (fun i _ => R.length - (intOf i).toNat)
        case atStart => exact ⟨0, Nat.zero_le _, rfl, ⟨0, rfl⟩⟩
        case round =>
          rename World => W0
          obtain ⟨k, hk, rfl, hq⟩ := hrel
          by_cases hlt : k < R.length
          · have hxg : R[k]? = some (R[k]) := by simp [hlt]
            have hxl : R[k].length ≤ 1024 := HL.out _ (List.getElem_mem _)
            have hxb := HF.out.back k _ hxg
            have hxu := HF.out.up k _ hxg
            generalize R[k] = x at *
            obtain ⟨ax, cx, hx1, hx2, hx3⟩ := (hrA.quiet hq).2 k x hxg
            obtain ⟨bA, oA, rfl, _, hcA⟩ := (hsA.quiet hq) k _ hx1
            have i1 : (k : Int) < (R.length : Int) := by omega
            have i3 : (0 : Int) ≤ (k : Int) := by omega
            have HXU : Hid _ := hxu
            have HXB : Hid _ := hxb
            clear hxu hxb
            go_wp2
            go_loopw [10] (fun i wr => CKRel x.length w5 i wr) (fun i _ => x.length - (intOf i).toNat)
            case atStart => exact ⟨0, Nat.zero_le _, rfl, hq⟩
            case round =>
              rename World => W1
              obtain ⟨q, hql, rfl, hq1⟩ := hrel
              by_cases hltq : q < x.length
              · have hxq : x[q]? = some (x[q]) := by simp [hltq]
                have hub : x[q] < k := HXB.out _ (List.getElem_mem _)
                generalize x[q] = u at *
                clear hx3
                obtain ⟨ax', cx', hx1', hx2', hx3⟩ := (hrA.quiet hq1).2 k x hxg
                rw [hx1] at hx1'
                cases hx1'
                obtain ⟨b1, o1, rfl, _, hc1⟩ := hx3 q _ (ints_get hxq)
                have j1 : (q : Int) < (x.length : Int) := by omega
                have j3 : (0 : Int) ≤ (q : Int) := by omega
                have u0 : ((u : Int) < 0) = False := by simp
                have u1 : ((k : Int) ≤ (u : Int)) = False := by simp; omega
                by_cases hq0 : q = 0
                · have d0 : decide (0 < q) = false := by simp; omega
                  clear hq0
                  go_wp2
                  go_quiet (fail)
                  go_wp2
                  go_roundw
                  case rel => exact ⟨q + 1, by omega, by go_num, hq1.drewN nq⟩
                  case measure => simp [intOf]; omega
                · obtain ⟨p, hp⟩ : ∃ p, q = p + 1 := ⟨q - 1, by omega⟩
                  have hpq : x[p]? = some (x[p]'(by omega)) := by rw [List.getElem?_eq_getElem]
                  have huv := HXU.out p _ u hpq (hp ▸ hxq)
                  generalize x[p]'(by omega) = v at *
                  obtain ⟨b2, o2, e2, _, hc2⟩ := hx3 p _ (ints_get hpq)
                  cases e2
                  have d0 : decide (0 < q) = true := by simp; omega
                  have d0q : 0 < q := by omega
                  have hwrap : IntKind.i64.wrap ((q : Int) - 1) = (p : Int) := by rw [IntWalk.i64_in _ ⟨by omega, by omega⟩]; omega
                  have j4 : (0 : Int) ≤ (p : Int) := by omega
                  have j5 : (p : Int) < (x.length : Int) := by omega
                  have d1 : decide (u ≤ v) = false := by simp; omega
                  clear hp hq0 huv
                  go_wp2
                  go_quiet (fail)
                  go_wp2
                  go_roundw
                  case rel => exact ⟨q + 1, by omega, by go_num, hq1.drewN nq⟩
                  case measure => simp [intOf]; omega
              · go_wp2
                go_roundw
                case rel => exact ⟨k + 1, by omega, by go_num, hq1⟩
                case measure => simp [intOf]; omega
          · have hkR : k = R.length := by omega
            subst hkR
            have hZ := zzcomponents_any aA capA xsA R _ W0 rfl (by rw [HML.out]; exact l0) HL.out HF.out.back (hsA.quiet hq) (hrA.quiet hq)
            go_wp2_with fail
            refine hZ.mono ?_
            rintro e w6 ⟨aC, cC, rfl, _, hsC, hb6⟩
            have hlr : (List.range R.length).length = R.length := List.length_range
            have hnb : (((List.range R.length).length : Int) != (R.length : Int)) = false := by rw [bne_eq_false_iff_eq, hlr]
            obtain ⟨mq, rfl⟩ := hq
            have hbf := below_step (below_step HBW.out (below_drewN (Below.refl _ _) mq)) hb6
            clear HBW hZ
            have HFIN : Hid _ := hbf
            clear hbf
            go_wp2
            go_loopw [12] (fun i wr => CKRel R.length w6 i wr) (fun i _ => R.length - (intOf i).toNat)
            case atStart => exact ⟨0, Nat.zero_le _, rfl, ⟨0, rfl⟩⟩
            case round =>
              rename World => W2
              obtain ⟨k, hk, rfl, hq2⟩ := hrel
              by_cases hlt : k < R.length
              · obtain ⟨b1, o1, rfl, _, hc1⟩ := (hsC.quiet hq2) k (.int .i64 (k : Int)) (by simp [ints, hlt])
                have i1 : (k : Int) < (R.length : Int) := by omega
                have i3 : (0 : Int) ≤ (k : Int) := by omega
                go_wp2
                go_roundw
                case rel => exact ⟨k + 1, by omega, by go_num, hq2⟩
                case measure => simp [intOf]; omega
              · go_wp2
                go_ret
                obtain ⟨mq2, rfl⟩ := hq2
                exact ⟨by simp, below_step HFIN.out (below_drewN (Below.refl _ _) mq2)⟩

end Go.Proofs.Qxb6600314aDoor
