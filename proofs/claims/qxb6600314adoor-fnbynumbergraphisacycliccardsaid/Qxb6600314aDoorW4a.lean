/-
  Seat b6600314aD: runs, at one of its three keys. By an AI agent (seat 043).
-/
import Derived.Test.Qxb6600314aDoorW4
set_option linter.unusedSimpArgs false
set_option linter.unusedVariables false
namespace Go.Proofs.Qxb6600314aDoor
open Go.RowKit
attribute [local go_sem ↓] Go.wp_at_zero Go.wp_at_succ

set_option maxHeartbeats 4000000 in
theorem runs_22 (X : List Nat) (sb so n sc : Nat) (pa : Option Addr) (pc : Nat) (ids : List Id3) (ps : List Nat) (w : World) (hn : ids.length = n) (hn2 : n ≤ 1024) (hm2 : ps.length ≤ 1024) (hpc : ps.length ≤ pc)
    (hX : ∀ x ∈ X, x < w.heap.size) (hp : Sees w X pa (ints ps)) (hs : SprAt w sb so ids) (hlt : ∀ p ∈ ps, p < n) :
    Calls Tryd.prog 21 #[.slice (some ⟨sb, so, none⟩) n sc, .slice pa ps.length pc, .func (.func 22) #[] #[]] w fun e w' => CutRes X w (cut (keyAt (fun i => canon i.p) ids) ps) e w' := by
  obtain ⟨ti, hi, hz0, hz1, hz2⟩ := info_parts info35
  have hKi : ∀ (q : Nat) (i : Id3), ids[q]? = some i → keyAt (fun i => canon i.p) ids q = (canon i.p).toList := fun q i h => keyAt_get h
  generalize keyAt (fun i => canon i.p) ids = K at *
  go_enter Tryd.func21, Tryd.ntmps21
  go_wp2
  go_loopw [7, 1] (fun c p wr => RunsRel X K ps w c p wr) (fun _ p _ => lenOf p)
  case atStart => exact ⟨0, pa, pc, [], [], Nat.zero_le _, rfl, hpc, hp, rfl, Nat.le_refl _, World.ownsRow_nil _ _ _ _, RowsSee.nil _ _, Below.refl _ _⟩
  case round =>
    rename World => W0
    obtain ⟨k, pa', pcap, R, xs, hk, rfl, hcap, hpr, hR, hRk, hown, hrows, hbr⟩ := hrel
    by_cases hlt0 : k < ps.length
    · have hlen : (ps.drop k).length = ps.length - k := by simp
      have hlp : ∀ p ∈ ps.drop k, p < n := fun p hp => hlt p (List.mem_of_mem_drop hp)
      obtain ⟨m, HM⟩ : ∃ m, Hid (ps.length - k = m) := ⟨_, rfl⟩
      have hstep := cut_step K (ps.drop k)
      have hfin : ∀ (j : Nat) (c : Value) (wx : World) (b off : Nat) (pa : Option Addr), pa' = some ⟨b, off, none⟩ → k + j ≤ ps.length → cut K (ps.drop k) = (ps.drop k).take j :: cut K ((ps.drop k).drop j) → 1 ≤ j →
          wx.ownsRow w.heap.size 35 1 c (R.length + 1) (xs ++ [.slice (some ⟨b, off, none⟩) j pcap]) → Below w.heap.size w wx → (k + j < ps.length → pa = some ⟨b, off + j, none⟩) → RunsRel X K ps w c (.slice pa (m - j) (pcap - j)) wx := by
        intro j c wx b off pa ha hkj hcut hj hown hb hpa
        subst ha
        have := runs_rel_step hkj hcap hpr hR hcut hj hRk hown hrows hb pa hpa
        rwa [show ps.length - (k + j) = m - j by rw [← HM.out]; omega] at this
      have hm1 : 1 ≤ m := by rw [← HM.out]; omega
      have hmle : m ≤ 1024 := by rw [← HM.out]; omega
      have hmc : m ≤ pcap := by rw [← HM.out]; exact hcap
      have hRm : R.length + m ≤ 1024 := by rw [← HM.out]; omega
      have HFIN : Hid _ := hfin
      rw [HM.out] at hlen ⊢
      have hkm : k + m = ps.length := by rw [← HM.out]; omega
      have HKM : Hid (k + m = ps.length) := hkm
      clear hkm hfin hcap hrows hRk hR hp hlt hk hlt0 HM
      generalize ps.drop k = l at *
      have hlen' : l.length = m := hlen
      have HLEN : Hid (l.length = m) := hlen
      clear hlen hlen'
      obtain ⟨b, off, ha, hbX, hc0⟩ := hpr 0 (.int .i64 ((l[0]'(by rw [HLEN.out]; omega) : Nat) : Int)) (ints_get (by simp))
      have hgt : decide (0 < m) = true := by simp; omega
      go_wp2
      go_loopw [8] (fun i wx => InRel K l W0 i wx) (fun i _ => m - (intOf i).toNat)
      case atStart => exact ⟨1, Nat.le_refl _, by rw [HLEN.out]; omega, rfl, Below.refl _ _, fun i h1 h2 => by omega⟩
      case round =>
        obtain ⟨j, hj1, hj2, rfl, hbx, hall⟩ := hrel
        have hj2' : j ≤ m := by rw [← HLEN.out]; exact hj2
        subst ha
        have hbw : Below w.heap.size w wr := hbr.trans (hbx.mono hbr.size)
        have hwr : w.heap.size ≤ wr.heap.size := hbw.size
        have hownx := owns_later hown hbx
        by_cases hltj : j < m
        · obtain ⟨b', off', ha', _, hcj⟩ := hpr j (.int .i64 ((l[j]'(by rw [HLEN.out]; omega) : Nat) : Int)) (ints_get (by simp))
          simp only [Option.some.injEq, Addr.mk.injEq, and_true] at ha'
          obtain ⟨rfl, rfl⟩ := ha'
          have e0 : l[0]'(by rw [HLEN.out]; omega) < n := hlp _ (List.getElem_mem _)
          have e1 : l[j]'(by rw [HLEN.out]; omega) < n := hlp _ (List.getElem_mem _)
          have d0 : l.getD 0 0 = l[0]'(by rw [HLEN.out]; omega) := by rw [List.getD_eq_getElem?_getD, List.getElem?_eq_getElem (by rw [HLEN.out]; omega)]; rfl
          have d1 : l.getD j 0 = l[j]'(by rw [HLEN.out]; omega) := by rw [List.getD_eq_getElem?_getD, List.getElem?_eq_getElem (by rw [HLEN.out]; omega)]; rfl
          generalize l[0]'(by rw [HLEN.out]; omega) = q0 at *
          generalize l[j]'(by rw [HLEN.out]; omega) = q1 at *
          obtain ⟨s00, s01, s02, s03⟩ := hs q0 (ids[q0]'(by omega)) (by simp [hn, e0])
          obtain ⟨s10, s11, s12, s13⟩ := hs q1 (ids[q1]'(by omega)) (by simp [hn, e1])
          have k0 := hKi q0 (ids[q0]'(by omega)) (by simp [hn, e0])
          have k1 := hKi q1 (ids[q1]'(by omega)) (by simp [hn, e1])
          generalize ids[q0]'(by omega) = i0 at *
          generalize ids[q1]'(by omega) = i1 at *
          have g0 : (0 : Int) ≤ (q0 : Int) := by omega
          have g1 : (q0 : Int) < (n : Int) := by omega
          have g2 : (0 : Int) ≤ (q1 : Int) := by omega
          have g3 : (q1 : Int) < (n : Int) := by omega
          have g4 : (0 : Int) ≤ (j : Int) := by omega
          have g5 : (j : Int) < (m : Int) := by omega
          have g6 : (0 : Int) < (m : Int) := by omega
          have g7 : 0 < m := by omega
          have hgu : decide ((j : Int) < (m : Int)) = true := by simpa using hltj
          have c0 := cell_later' hbw hc0
          rw [Nat.add_zero] at c0
          have c1 := cell_later' hbw hcj
          have c2 := cell_later' hbw s00
          have c3 := cell_later' hbw s01
          have c4 := cell_later' hbw s02
          have c5 := cell_later' hbw s03
          have c6 := cell_later' hbw s10
          have c7 := cell_later' hbw s11
          have c8 := cell_later' hbw s12
          have c9 := cell_later' hbw s13
          clear hc0 hcj s00 s01 s02 s03 s10 s11 s12 s13 hpr hs hlp hn hKi
          have hkk : (K (l.getD j 0) == K (l.getD 0 0)) = ((canon i1.p).toList == (canon i0.p).toList) := by rw [d0, d1, k0, k1]
          have HKK : Hid _ := hkk
          clear hkk d0 d1 k0 k1
          by_cases hq : ((canon i1.p).toList == (canon i0.p).toList) = true
          · have hall' : ∀ i, 1 ≤ i → i < j + 1 → (K (l.getD i 0) == K (l.getD 0 0)) = true := by
              intro i h1 h2
              by_cases hij : i < j
              · exact hall i h1 hij
              · have : i = j := by omega
                subst this
                rw [HKK.out]; exact hq
            have HALL : Hid _ := hall'
            clear hall hall' hstep
            go_wp2
            go_region_held3 (fun w' => w'.cell? ⟨b, off, none⟩ = some (.int .i64 (q0 : Int)) ∧ w'.cell? ⟨b, off + j, none⟩ = some (.int .i64 (q1 : Int)) ∧
              w'.cell? ⟨sb, so + q0 * 18, none⟩ = some (.string i0.p) ∧ w'.cell? ⟨sb, so + q0 * 18 + 1, none⟩ = some (.string i0.l) ∧ w'.cell? ⟨sb, so + q0 * 18 + 2, none⟩ = some (.string i0.s) ∧ w'.cell? ⟨sb, so + q0 * 18 + 3, none⟩ = some (.string ByteArray.empty) ∧
              w'.cell? ⟨sb, so + q1 * 18, none⟩ = some (.string i1.p) ∧ w'.cell? ⟨sb, so + q1 * 18 + 1, none⟩ = some (.string i1.l) ∧ w'.cell? ⟨sb, so + q1 * 18 + 2, none⟩ = some (.string i1.s) ∧ w'.cell? ⟨sb, so + q1 * 18 + 3, none⟩ = some (.string ByteArray.empty) ∧ Below W0.heap.size W0 w') (((try go_split_ands); refine ⟨?_, ?_, ?_, ?_, ?_, ?_, ?_, ?_, ?_, ?_, ?_⟩ <;> first | exact cell_later hb (by assumption) | exact below_step (by assumption) hb | exact Below.drew (by assumption) | (go_keep; done)))
              (first | (go_at_call 22; refine (phaseKey_any _ _ _ _ _).mono ?_; rintro e w' ⟨rfl, hb⟩))
            have hbl : Below W0.heap.size W0 w' := by (try go_split_ands); assumption
            go_wp2
            go_roundw
            case rel => exact ⟨j + 1, by omega, by rw [HLEN.out]; omega, by go_num, hbl, HALL.out⟩
            case measure => simp [intOf]; omega
          · have hq' : ((canon i1.p).toList == (canon i0.p).toList) = false := by simpa using hq
            have hcut := hstep j hj1 hj2 hall (fun _ => by rw [HKK.out]; exact hq')
            have HCUT : Hid _ := hcut
            clear hall hstep hcut hq hownx hbw
            go_wp2
            go_region_held3 (fun w' => w'.cell? ⟨b, off, none⟩ = some (.int .i64 (q0 : Int)) ∧ w'.cell? ⟨b, off + j, none⟩ = some (.int .i64 (q1 : Int)) ∧
              w'.cell? ⟨sb, so + q0 * 18, none⟩ = some (.string i0.p) ∧ w'.cell? ⟨sb, so + q0 * 18 + 1, none⟩ = some (.string i0.l) ∧ w'.cell? ⟨sb, so + q0 * 18 + 2, none⟩ = some (.string i0.s) ∧ w'.cell? ⟨sb, so + q0 * 18 + 3, none⟩ = some (.string ByteArray.empty) ∧
              w'.cell? ⟨sb, so + q1 * 18, none⟩ = some (.string i1.p) ∧ w'.cell? ⟨sb, so + q1 * 18 + 1, none⟩ = some (.string i1.l) ∧ w'.cell? ⟨sb, so + q1 * 18 + 2, none⟩ = some (.string i1.s) ∧ w'.cell? ⟨sb, so + q1 * 18 + 3, none⟩ = some (.string ByteArray.empty) ∧ Below W0.heap.size W0 w') (((try go_split_ands); refine ⟨?_, ?_, ?_, ?_, ?_, ?_, ?_, ?_, ?_, ?_, ?_⟩ <;> first | exact cell_later hb (by assumption) | exact below_step (by assumption) hb | exact Below.drew (by assumption) | (go_keep; done)))
              (first | (go_at_call 22; refine (phaseKey_any _ _ _ _ _).mono ?_; rintro e w' ⟨rfl, hb⟩))
            have hbl : Below W0.heap.size W0 w' := by (try go_split_ands); assumption
            have hownx := owns_later hown hbl
            go_wp2_with (at_builtin; refine wpList_append_own _ rfl _ _ 26 rfl w.heap.size 35 ti (.slice none 0 0) 1 24 Tryd.underlying26 hi hz0 hz1 hz2 rfl (by decide) _ _ _ rfl (hownx.alloc _) ⟨_, 0, none⟩ 1 1 [.slice (some ⟨b, off, none⟩) j pcap] rfl rfl ?c1 ?c2 ?c3 ?c4 ?c5 ?_)
            case c1 => exact cell_one_new _ _ _
            case c2 => intro u hu; simp at hu; subst hu; rfl
            case c3 => unfold maxLen; omega
            case c4 => omega
            case c5 => have := (below_step hbr hbl).size; simp; omega
            · intro v' w1 hown' hgrow _
              have hb1 : Below w.heap.size w w1 := (below_step hbr hbl).alloc (below_step hbr hbl).size _ |>.grown hgrow (by have := (below_step hbr hbl).size; simp; omega) (fun g hg => (hown.lt g hg).1)
              go_wp2
              go_roundw
              case rel => exact HFIN.out j v' w1 b off _ rfl (by rw [← HKM.out]; omega) HCUT.out hj1 hown' hb1 (fun _ => rfl)
              case measure => simp [lenOf]; omega
        · have hjm : j = m := by omega
          subst hjm
          have hcut := hstep j hj1 hj2 hall (fun h => by rw [HLEN.out] at h; omega)
          have HCUT : Hid _ := hcut
          have hgu : decide ((j : Int) < (j : Int)) = false := by simp
          clear hall hstep hcut hownx hbw
          go_wp2
          go_quiet (fail)
          have hbl := below_drewN hbx nq
          have hownx := owns_later hown hbl
          go_wp2_with (at_builtin; refine wpList_append_own _ rfl _ _ 26 rfl w.heap.size 35 ti (.slice none 0 0) 1 24 Tryd.underlying26 hi hz0 hz1 hz2 rfl (by decide) _ _ _ rfl (hownx.alloc _) ⟨_, 0, none⟩ 1 1 [.slice (some ⟨b, off, none⟩) j pcap] rfl rfl ?c1 ?c2 ?c3 ?c4 ?c5 ?_)
          case c1 => exact cell_one_new _ _ _
          case c2 => intro u hu; simp at hu; subst hu; rfl
          case c3 => unfold maxLen; omega
          case c4 => omega
          case c5 => have := (below_step hbr hbl).size; simp; omega
          · intro v' w1 hown' hgrow _
            have hb1 : Below w.heap.size w w1 := (below_step hbr hbl).alloc (below_step hbr hbl).size _ |>.grown hgrow (by have := (below_step hbr hbl).size; simp; omega) (fun g hg => (hown.lt g hg).1)
            go_wp2
            go_roundw
            case rel => have hf := fun pa => HFIN.out j v' w1 b off pa rfl (by rw [← HKM.out]; omega) HCUT.out hj1 hown' hb1 (fun h => absurd h (by rw [← HKM.out]; omega)); simp only [Nat.sub_self] at hf; exact hf _
            case measure => simp [lenOf]; omega
    · have hkl : k = ps.length := by omega
      subst hkl
      rw [Nat.sub_self] at hcap ⊢
      rw [List.drop_length, cut_nil, List.append_nil] at hR
      subst hR
      obtain ⟨a, cap, rfl, hc, hsee⟩ := Sees.of_owns (X := X) hown (fun g hg hx => by have := (hown.lt g hg).1; have := hX g hx; omega)
      go_wp2
      go_ret
      exact ⟨a, cap, xs, rfl, hsee, hrows.below hbr, hbr⟩

end Go.Proofs.Qxb6600314aDoor
