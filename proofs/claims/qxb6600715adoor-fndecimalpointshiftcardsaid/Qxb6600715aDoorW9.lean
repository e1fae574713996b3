/-
  Seat b6600715aD: the law FnDecimalExact. By an AI agent (seat 043).
-/
import Derived.Test.Qxb6600715aDoorW8
set_option linter.unusedSimpArgs false
set_option linter.unusedVariables false
namespace Go.Proofs.Qxb6600715aDoor
open Go.RowKit

def Good (w : World) (e : Ending) (w' : World) : Prop := e = .returned (.bool true) ∧ Below w.heap.size w w'

/-- A walk over bytes that only draws. -/
def QRel (n : Nat) (w : World) (v : Value) (wr : World) : Prop := ∃ k : Nat, k ≤ n ∧ v = .int .i64 (k : Int) ∧ ∃ m, wr = w.drewN m
def QRel2 (a n : Nat) (w : World) (v : Value) (wr : World) : Prop := ∃ k : Nat, a ≤ k ∧ k ≤ n ∧ v = .int .i64 (k : Int) ∧ ∃ m, wr = w.drewN m
theorem below_drewN {B : Nat} {a b : World} (h : Below B a b) (n : Nat) : Below B a (b.drewN n) := h.trans ⟨rfl, rfl, rfl, Nat.le_refl _, fun _ _ => rfl⟩
/-- Behind the exponent, in the law. -/
def Cut2 (r : ByteArray × Int × Bool) (neg : Bool) (R : List UInt8) (pl : Nat) (w0 : World) (v : Value) (wx : World) : Prop :=
  ∃ p : Int, v = .int .i64 p ∧ -4611686018427387904 ≤ p ∧ p ≤ 4611686018427387904 ∧ r = decFin neg R pl p ∧ wx = w0
theorem expOf_bounds {l : List UInt8} {v : Int} (h : expOf l = some v) : -4611686018427387904 ≤ v ∧ v ≤ 4611686018427387904 := by
  unfold expOf at h
  split at h
  · split at h
    · cases h; assumption
    · cases h
  · cases h

theorem str_tail (c : UInt8) (l : List UInt8) : (Str (c :: l)).extract 1 (l.length + 1) = Str l := by
  apply ByteArray.ext
  rw [ByteArray.data_extract]
  simp
theorem str_get {l : List UInt8} {k : Nat} {b : UInt8} (h : l[k]? = some b) (h' : k < (Str l).size) : (Str l)[k]'h' = b := by
  obtain ⟨h1, h2⟩ := List.getElem?_eq_some_iff.1 h
  rw [← h2]
  rfl
theorem pre_get {R X z : List UInt8} (h : R = X ++ z) {i : Nat} {b : UInt8} (hb : X[i]? = some b) : R[i]? = some b := by
  have hl := (List.getElem?_eq_some_iff.1 hb).1
  rw [h, List.getElem?_append_left hl]
  exact hb
theorem suf_get {R X z : List UInt8} (h : R = X ++ z) (hz : ∀ b ∈ z, b = 48) {i : Nat} (h1 : X.length ≤ i) (h2 : i < R.length) : R[i]? = some 48 := by
  have hl : i - X.length < z.length := by
    rw [h, List.length_append] at h2; omega
  rw [h, List.getElem?_append_right h1, List.getElem?_eq_getElem hl, hz _ (List.getElem_mem hl)]
theorem drop_head48 : ∀ (l : List UInt8) (x : UInt8) (r : List UInt8), l.dropWhile (· == 48) = x :: r → x ≠ 48
  | [], x, r, h => by simp at h
  | y :: l, x, r, h => by
    rw [List.dropWhile_cons] at h
    split at h
    · exact drop_head48 l x r h
    · rename_i hy
      cases h
      simpa using hy
theorem rz_ne {R : List UInt8} (h : ∃ b r, R = b :: r ∧ b ≠ 48) : rz R ≠ [] := by
  intro e
  obtain ⟨b, r, rfl, hb⟩ := h
  obtain ⟨z, hz, h48⟩ := rz_pre (b :: r)
  rw [e, List.nil_append] at hz
  exact hb (h48 b (by rw [← hz]; simp))
theorem rz_last {R : List UInt8} {b : UInt8} (h : (rz R)[(rz R).length - 1]? = some b) : b ≠ 48 := by
  unfold rz at h
  rw [List.length_reverse] at h
  cases hd : R.reverse.dropWhile (· == 48) with
  | nil => rw [hd] at h; simp at h
  | cons x r =>
    rw [hd] at h
    rw [List.getElem?_reverse (by simp)] at h
    simp at h
    rw [← h]
    exact drop_head48 _ _ _ hd

theorem lz_cons_eq (r : List UInt8) : lz (48 :: r) = lz r := by simp [lz]
theorem lz_cons_ne (b : UInt8) (r : List UInt8) (h : b ≠ 48) : lz (b :: r) = b :: r := by simp [lz, h]
theorem lz_nil : lz [] = [] := rfl
theorem eq48F (b : UInt8) (h : b ≠ 48) : ((b.toNat : Int) == 48) = false := by
  apply beqF (n := 48)
  intro e
  exact h ((u8n b 48 (by omega)).2 e)

set_option maxRecDepth 100000 in
set_option maxHeartbeats 4000000 in
theorem lawExact (neg : Bool) (a0 a1 a2 : Option Addr) (n0 n1 n2 c0 c1 c2 : Nat) (wh fr ex : List UInt8) (w : World)
    (h0 : wh.length = n0) (h1 : fr.length = n1) (h2 : ex.length = n2) (e0 : a0 = none → n0 = 0) (e1 : a1 = none → n1 = 0) (e2 : a2 = none → n2 = 0)
    (g0 : BAt w a0 wh) (g1 : BAt w a1 fr) (g2 : BAt w a2 ex) (hE : Errs w) :
    Calls Tryd.prog 3 #[.bool neg, .slice a0 n0 c0, .slice a1 n1 c1, .slice a2 n2 c2] w fun e w' => Good w e w' := by
  go_enter Tryd.func3, Tryd.ntmps3
  go_wp2_with fail
  refine (zzBytes6_any neg a0 a1 a2 n0 n1 n2 c0 c1 c2 w).mono ?_
  rintro e w' ⟨⟨r, rfl⟩, hw⟩
  subst hw
  cases r with
  | false =>
    go_wp2
    go_ret
    exact ⟨rfl, Below.refl _ _⟩
  | true =>
    by_cases hbad : 65536 < n0 ∨ 65536 < n1 ∨ 65536 < n2
    · go_wp2_with fail
      all_goals first | (go_ret; exact ⟨rfl, Below.refl _ _⟩) | (exfalso; omega)
    · have l0 : n0 ≤ 65536 := by omega
      have l1 : n1 ≤ 65536 := by omega
      have l2 : n2 ≤ 65536 := by omega
      clear hbad
      have hD0 := onlyDigits_any a0 n0 c0 wh _ h0 l0 g0
      have hD1 := onlyDigits_any a1 n1 c1 fr _ h1 l1 g1
      cases ho0 : wh.all okB with
      | false =>
        rw [ho0] at hD0
        go_wp2_with fail
        refine hD0.mono ?_
        rintro e w1 ⟨rfl, hw1⟩
        subst hw1
        go_wp2
        go_ret
        exact ⟨rfl, Below.refl _ _⟩
      | true =>
        rw [ho0] at hD0
        go_wp2_with fail
        refine hD0.mono ?_
        rintro e w1 ⟨rfl, hw1⟩
        subst hw1
        cases ho1 : fr.all okB with
        | false =>
          rw [ho1] at hD1
          go_wp2_with fail
          refine hD1.mono ?_
          rintro e w1 ⟨rfl, hw1⟩
          subst hw1
          go_wp2
          go_ret
          exact ⟨rfl, Below.refl _ _⟩
        | true =>
          rw [ho1] at hD1
          go_wp2_with fail
          refine hD1.mono ?_
          rintro e w1 ⟨rfl, hw1⟩
          subst hw1
          clear hD0 hD1 ho0 ho1
          go_wp2_with fail
          refine (clone_any a0 n0 c0 wh _ h0 (by omega) e0 g0).mono ?_
          rintro e wa ⟨b0, d0, rfl, -, -, -, -, q0, hba⟩
          go_wp2_with fail
          refine (clone_any a1 n1 c1 fr _ h1 (by omega) e1 (g1.later hba)).mono ?_
          rintro e wb ⟨b1, d1, rfl, -, -, -, hnf, q1, hbb⟩
          go_wp2_with fail
          refine (clone_any a2 n2 c2 ex _ h2 (by omega) e2 ((g2.later hba).later hbb)).mono ?_
          rintro e wc ⟨b2, d2, rfl, -, -, hn2, -, q2, hbc⟩
          have q0c := (q0.later hbb).later hbc
          have q1c := q1.later hbc
          have hbw := below_step (below_step hba hbb) hbc
          have hEc := hE.later hbw
          clear g0 g1 g2 q0 q1 e0 e1 e2 hba hbb hbc hE hn2
          subst h0 h1 h2
          go_wp2_with fail
          refine (zzdec_any neg b0 b1 b2 d0 d1 d2 wh fr ex wc (by omega) (by omega) (by omega) q0c q1c q2 hnf hEc).mono ?_
          rintro e wd ⟨rfl, hbd⟩
          have q0d := q0c.later hbd
          have q1d := q1c.later hbd
          have q2d := q2.later hbd
          have hbwd := below_step hbw hbd
          clear q0c q1c q2 hEc hbd hbw hnf
          generalize hr : dec neg wh fr (optOf b2 ex) = r
          obtain ⟨r1, r2, r3⟩ := r
          have HR : Hid (dec neg wh fr (optOf b2 ex) = (r1, r2, r3)) := hr
          clear hr
          go_wp2_with fail
          refine (strip_any b0 wh.length d0 wh wd rfl l0 q0d).mono ?_
          rintro e we ⟨s0, t0, rfl, -, -, v0, hbe⟩
          go_wp2_with fail
          refine (strip_any b1 fr.length d1 fr we rfl l1 (q1d.later hbe)).mono ?_
          rintro e wf ⟨s1, t1, rfl, -, -, v1, hbf⟩
          have hl0 := strip_len_le wh
          have hl1 := strip_len_le fr
          go_wp2_with fail
          refine (concat_any s0 s1 _ _ t0 t1 (strip wh) (strip fr) wf rfl rfl (by omega) (by omega) (v0.later hbf) v1).mono ?_
          rintro e wg ⟨am, cm, rfl, hcm, hcm2, qm, hbg⟩
          have hbdg := below_step (below_step hbe hbf) hbg
          have q1g := q1d.later hbdg
          have q2g := q2d.later hbdg
          have hbwg := below_step hbwd hbdg
          clear q0d q1d q2d hbdg hbwd hbe hbf hbg v0 v1
          have hml : (strip wh ++ strip fr).length ≤ 131072 := by simp; omega
          generalize hm : strip wh ++ strip fr = m at *
          have HM : Hid (strip wh ++ strip fr = m) := hm
          clear hm
          go_wp2
          go_loop [13] (fun i => ∃ k : Nat, k ≤ m.length ∧ i = .int .i64 (k : Int) ∧ lz (m.drop k) = lz m) (fun i => m.length - (intOf i).toNat)
          case atStart => exact ⟨0, Nat.zero_le _, rfl, rfl⟩
          case round =>
            obtain ⟨k, hk, rfl, hlz⟩ := hrel
            by_cases hlt : k < m.length
            · have hmk : m[k]? = some (m[k]) := by simp [hlt]
              have hdrop : m.drop k = m[k] :: m.drop (k + 1) := List.drop_eq_getElem_cons hlt
              generalize m[k] = b at *
              obtain ⟨g, off, rfl, hcell⟩ := qm k b hmk
              by_cases h48 : b = 48
              · subst h48
                have HN : Hid (lz (m.drop (k + 1)) = lz m) := by
                  show _ = _
                  rw [← hlz, hdrop, lz_cons_eq]
                have b48 : (((48 : UInt8).toNat : Int) == 48) = true := rfl
                clear hdrop hlz
                go_wp2
                go_round
                case rel => exact ⟨k + 1, by omega, by go_num, HN.out⟩
                case measure => simp [intOf]; omega
              · have HN : Hid (m.drop k = lz m) := by
                  show _ = _
                  rw [← hlz, hdrop, lz_cons_ne _ _ h48]
                have b48 := eq48F b h48
                have hcmk : ¬ cm = k := by omega
                have hRl : m.length - k = (lz m).length := by rw [← HN.out, List.length_drop]
                have hR0 : (((lz m).length) == 0) = false := by rw [beq_eq_false_iff_ne]; omega
                have hR1 : (((lz m).length : Int) == 0) = false := by rw [beq_eq_false_iff_ne]; omega
                have hRat : BAt wg (some ⟨g, off + k, none⟩) (lz m) := by
                  rw [← HN.out]; exact qm.drop k
                have hRne : lz m ≠ [] := fun h => by rw [h] at hRl; simp only [List.length_nil] at hRl; omega
                have HDEC : Hid ((r1, r2, r3) = match optOf b2 ex with
                    | none => decFin neg (lz m) (strip fr).length 0
                    | some x => match expOf (strip x) with
                      | none => (Str [], 0, false)
                      | some p => decFin neg (lz m) (strip fr).length p) := by
                  show _ = _
                  rw [← HR.out]
                  unfold dec
                  rw [HM.out, if_neg hRne]
                  rfl
                have HB : Hid _ := hbwg
                have HHD : Hid (∃ b r, lz m = b :: r ∧ b ≠ 48) := ⟨b, m.drop (k + 1), by rw [← HN.out]; exact hdrop, h48⟩
                clear hdrop hlz HR HM hbwg qm hmk HN h48
                generalize hRg : lz m = R at *
                clear hRg
                go_upto_if 98 with fail
                clear hcell b48 hR0 hR1
                go_cut [15, 16, 17] (fun v15 _ _ wx => Cut2 (r1, r2, r3) neg R (strip fr).length wg v15 wx)
                case first =>
                  cases b2 with
                  | none =>
                    have HREL : Hid (Cut2 (r1, r2, r3) neg R (strip fr).length wg (.int .i64 0) wg) := ⟨0, rfl, by omega, by omega, HDEC.out, rfl⟩
                    clear HDEC
                    go_wp2
                    go_meet
                    exact HREL.out
                  | some adx =>
                    have hPE := parseExp_any (some adx) ex.length d2 ex wg rfl l2 q2g
                    rw [pe_parse] at hPE
                    have HD2 : Hid ((r1, r2, r3) = match expOf (strip ex) with
                      | none => (Str [], 0, false)
                      | some p => decFin neg R (strip fr).length p) := HDEC.out
                    clear HDEC
                    cases hx : expOf (strip ex) with
                    | none =>
                      rw [hx] at hPE
                      have hd := HD2.out
                      rw [hx] at hd
                      simp only [Prod.mk.injEq] at hd
                      obtain ⟨rfl, rfl, rfl⟩ := hd
                      clear HD2 hx
                      go_wp2_with fail
                      refine hPE.mono ?_
                      rintro e w' ⟨rfl, rfl⟩
                      simp only [expRes]
                      go_wp2
                      go_ret
                      exact ⟨rfl, HB.out⟩
                    | some v =>
                      have hb := expOf_bounds hx
                      rw [hx] at hPE
                      have hd := HD2.out
                      rw [hx] at hd
                      have HREL : Hid (Cut2 (r1, r2, r3) neg R (strip fr).length wg (.int .i64 v) wg) := ⟨v, rfl, hb.1, hb.2, hd, rfl⟩
                      clear HD2 hx hd hb
                      go_wp2_with fail
                      refine hPE.mono ?_
                      rintro e w' ⟨rfl, rfl⟩
                      simp only [expRes]
                      go_wp2
                      go_meet
                      exact HREL.out
                case rest =>
                  obtain ⟨p, rfl, hp1, hp2, hd, rfl⟩ := hcut
                  clear HDEC
                  unfold decFin at hd
                  simp only [Prod.mk.injEq] at hd
                  obtain ⟨rfl, rfl, rfl⟩ := hd
                  go_upto_if 120 with fail
                  go_cut [18] (fun v18 wx => v18 = .string (Str (rz R)) ∧ wx = wc)
                  case first =>
                    cases neg with
                    | false =>
                      go_wp2
                      go_meet
                      exact ⟨rfl, rfl⟩
                    | true =>
                      have d45 : ∀ h, ((((Str (45 :: rz R))[0]'h).toNat : Int) != 45) = false := fun h => rfl
                      have dz : ((((rz R).length : Nat) : Int) + 1 == 0) = false := by rw [beq_eq_false_iff_ne]; omega
                      have dx := str_tail 45 (rz R)
                      go_wp2
                      go_meet
                      exact ⟨rfl, rfl⟩
                  case rest =>
                    obtain ⟨rfl, rfl⟩ := hcut
                    generalize Str (if neg = true then 45 :: rz R else rz R) = rr
                    have hrz0 := rz_ne HHD.out
                    obtain ⟨z, hz, h48z⟩ := rz_pre R
                    have hrl := rz_len R
                    have hrp : 0 < (rz R).length := List.length_pos_iff.2 hrz0
                    have f1 : (((rz R).length : Int) == 0) = false := by rw [beq_eq_false_iff_ne]; omega
                    have f2 : decide (((R.length : Nat) : Int) < ((rz R).length : Int)) = false := by simp; omega
                    have f2' : decide (R.length < (rz R).length) = false := by simp; omega
                    have fw : IntKind.i64.wrap (((rz R).length : Int) - 1) = (((rz R).length - 1 : Nat) : Int) := by rw [IntWalk.i64_in _ ⟨by omega, by omega⟩]; omega
                    have HZ : Hid (R = rz R ++ z) := hz
                    clear hz
                    obtain ⟨bl, hbl⟩ : ∃ b, (rz R)[(rz R).length - 1]? = some b := ⟨(rz R)[(rz R).length - 1]'(by omega), by simp⟩
                    have hbl48 := eq48F bl (rz_last hbl)
                    have HBL : Hid ((rz R)[(rz R).length - 1]? = some bl) := hbl
                    clear hbl
                    have hbl2 : ∀ h, (Str (rz R))[(rz R).length - 1]'h = bl := fun h => str_get HBL.out h
                    go_wp2
                    clear hbl2 hbl48 f1 f2 f2' fw HBL
                    go_loopw [19] (fun v wr => QRel (rz R).length wc v wr) (fun v _ => (rz R).length - (intOf v).toNat)
                    case atStart => exact ⟨0, Nat.zero_le _, rfl, 0, rfl⟩
                    case round =>
                      rename World => W0
                      obtain ⟨i, hi, rfl, nd, hW0⟩ := hrel
                      by_cases hlti : i < (rz R).length
                      · have hbi : (rz R)[i]? = some ((rz R)[i]) := by simp [hlti]
                        have hRi : R[i]? = some ((rz R)[i]) := pre_get HZ.out hbi
                        generalize (rz R)[i] = b at *
                        have hsi : ∀ h, (Str (rz R))[i]'h = b := fun h => str_get hbi h
                        obtain ⟨g', o', eg, hci⟩ := hRat i b hRi
                        cases eg
                        have hci0 : W0.cell? ⟨g, off + k + i, none⟩ = some (.int .u8 (b.toNat : Int)) := by rw [hW0]; exact hci
                        have i1 : (i : Int) < ((rz R).length : Int) := by omega
                        have i2 : (0 : Int) ≤ (i : Int) := by omega
                        have i3 : (i : Int) < (R.length : Int) := by omega
                        have bb : ((b.toNat : Int) != (b.toNat : Int)) = false := by simp
                        have HW : Hid (W0 = wc.drewN nd) := hW0
                        clear hW0 hbi hRi hci
                        go_wp2
                        go_quiet (fail)
                        go_wp2
                        go_roundw
                        case rel => exact ⟨i + 1, by omega, by go_num, nd + nq, by rw [HW.out]; exact World.drewN_drewN _ _ _⟩
                        case measure => simp [intOf]; omega
                      · have hin : i = (rz R).length := by omega
                        have HW : Hid (W0 = wc.drewN nd) := hW0
                        clear hW0
                        subst hin
                        go_wp2
                        go_loopw [20] (fun v wr => QRel2 (rz R).length R.length wc v wr) (fun v _ => R.length - (intOf v).toNat)
                        case atStart => exact ⟨(rz R).length, Nat.le_refl _, hrl, rfl, nd, HW.out⟩
                        case round =>
                          rename World => W1
                          obtain ⟨i, hi0, hi, rfl, nd1, hW1⟩ := hrel
                          by_cases hlti : i < R.length
                          · have hRi : R[i]? = some 48 := suf_get HZ.out h48z hi0 hlti
                            obtain ⟨g', o', eg, hci⟩ := hRat i 48 hRi
                            cases eg
                            have hci0 : W1.cell? ⟨g, off + k + i, none⟩ = some (.int .u8 48) := by rw [hW1]; exact hci
                            have i2 : (0 : Int) ≤ (i : Int) := by omega
                            have i3 : (i : Int) < (R.length : Int) := by omega
                            have HW1 : Hid (W1 = wc.drewN nd1) := hW1
                            clear hW1 hRi hci
                            go_wp2
                            go_roundw
                            case rel => exact ⟨i + 1, by omega, by omega, by go_num, nd1, HW1.out⟩
                            case measure => simp [intOf]; omega
                          · have hin2 : i = R.length := by omega
                            subst hin2
                            have hCD := countDigits_any b1 fr.length d1 fr W1 rfl l1 (by rw [hW1]; exact q1g)
                            have HBF : Hid (Below w1.heap.size w1 W1) := by
                              show Below _ _ _
                              rw [hW1]
                              exact below_drewN HB.out nd1
                            have e1 : IntKind.i64.wrap (((R.length : Nat) : Int) - ((rz R).length : Int)) = ((R.length : Nat) : Int) - ((rz R).length : Int) := IntWalk.i64_in _ ⟨by omega, by omega⟩
                            have e2 : IntKind.i64.wrap (p - ((strip fr).length : Int)) = p - ((strip fr).length : Int) := IntWalk.i64_in _ ⟨by omega, by omega⟩
                            have e3 : IntKind.i64.wrap (p - ((strip fr).length : Int) + (((R.length : Nat) : Int) - ((rz R).length : Int))) = p - ((strip fr).length : Int) + (((R.length : Nat) : Int) - ((rz R).length : Int)) := IntWalk.i64_in _ ⟨by omega, by omega⟩
                            have e4 : (p + (((R.length : Nat) : Int) - ((rz R).length : Int) - ((strip fr).length : Int)) == p - ((strip fr).length : Int) + (((R.length : Nat) : Int) - ((rz R).length : Int))) = true := by rw [beq_iff_eq]; omega
                            clear hW1
                            go_wp2_with fail
                            refine hCD.mono ?_
                            rintro e w9 ⟨rfl, rfl⟩
                            clear hCD
                            go_wp2
                            go_ret
                            exact ⟨rfl, HBF.out⟩
            · have hkm : k = m.length := by omega
              rw [hkm, List.drop_length, lz_nil] at hlz
              have hdec : dec neg wh fr (optOf b2 ex) = (Str [48], 0, true) := by
                unfold dec
                rw [if_pos (by rw [HM.out]; exact hlz.symm)]
              rw [HR.out] at hdec
              simp only [Prod.mk.injEq] at hdec
              obtain ⟨rfl, rfl, rfl⟩ := hdec
              have HB : Hid _ := hbwg
              clear hlz HR HM hbwg q1g q2g qm
              subst hkm
              go_wp2
              all_goals (go_ret; exact ⟨rfl, HB.out⟩)

end Go.Proofs.Qxb6600715aDoor
