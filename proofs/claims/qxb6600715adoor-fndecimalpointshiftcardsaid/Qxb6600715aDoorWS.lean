/-
  Seat b6600715aD: the law FnDecimalPointShift. By an AI agent (seat 043).
-/
import Derived.Test.Qxb6600715aDoorW9
import Derived.Test.Qxb6600715aDoorWI
set_option linter.unusedSimpArgs false
set_option linter.unusedVariables false
namespace Go.Proofs.Qxb6600715aDoor
open Go.RowKit

/-- The exponent's number: what the law holds it for. -/
def ExpIs (a : Option Addr) (ex : List UInt8) (e : Int) : Prop := match optOf a ex with | none => e = 0 | some x => expOf (strip x) = some e

theorem strip_itoa (v : Int) : strip (itoa v) = itoa v := by
  unfold strip
  rw [List.filter_eq_self]
  intro c hc
  simpa using itoa_plain v c hc
theorem exp_itoa (v : Int) (h1 : -4611686018427387904 ≤ v) (h2 : v ≤ 4611686018427387904) : expOf (strip (itoa v)) = some v := by
  rw [strip_itoa]
  unfold expOf
  rw [parse_itoa v h1 h2]
  simp [h1, h2]
theorem dec_ok (neg : Bool) (wh fr : List UInt8) (a : Option Addr) (ex : List UInt8) (e : Int) (h : ExpIs a ex e) :
    dec neg wh fr (optOf a ex) = if lz (strip wh ++ strip fr) = [] then (Str [48], 0, true) else decFin neg (lz (strip wh ++ strip fr)) (strip fr).length e := by
  unfold dec ExpIs at *
  split
  · rfl
  · cases ho : optOf a ex with
    | none => rw [ho] at h; simp only at h; subst h; rfl
    | some x => rw [ho] at h; simp only at h ⊢; rw [h]
theorem dec_true (neg : Bool) (wh fr : List UInt8) (a : Option Addr) (ex : List UInt8) (e : Int) (h : ExpIs a ex e) : (dec neg wh fr (optOf a ex)).2.2 = true := by
  rw [dec_ok _ _ _ _ _ _ h]
  split <;> rfl
theorem dec_shift (neg : Bool) (wh fr : List UInt8) (a b : Option Addr) (ex : List UInt8) (e : Int) (h : ExpIs a ex e) (hb : b ≠ none)
    (h1 : -4611686018427387904 ≤ e - ((strip fr).length : Int)) (h2 : e - ((strip fr).length : Int) ≤ 4611686018427387904) :
    dec neg (wh ++ fr) [] (optOf b (itoa (e - ((strip fr).length : Int)))) = dec neg wh fr (optOf a ex) := by
  have hb' : ExpIs b (itoa (e - ((strip fr).length : Int))) (e - ((strip fr).length : Int)) := by
    cases b with
    | none => exact absurd rfl hb
    | some ad => exact exp_itoa _ h1 h2
  rw [dec_ok _ _ _ _ _ _ h, dec_ok _ _ _ _ _ _ hb', strip_app]
  have e0 : strip [] = [] := rfl
  rw [e0, List.append_nil]
  split
  · rfl
  · unfold decFin
    simp only [Prod.mk.injEq, and_true, true_and]
    simp only [List.length_nil]
    omega

/-- Behind the exponent. -/
def Cut3 (a : Option Addr) (ex : List UInt8) (w0 : World) (v : Value) (wx : World) : Prop :=
  ∃ p : Int, v = .int .i64 p ∧ -2305843009213693952 ≤ p ∧ p ≤ 2305843009213693952 ∧ ExpIs a ex p ∧ wx = w0

theorem NewB.some {w : World} {bs : List UInt8} {x : Ending} {w' : World} (h : NewB w bs x w') (hp : bs ≠ []) : ∃ a cap, x = .returned (.slice a bs.length cap) ∧ a ≠ none ∧ BAt w' a bs ∧ Below w.heap.size w w' := by
  obtain ⟨a, cap, rfl, _, _, hat, hb⟩ := h
  refine ⟨a, cap, rfl, ?_, hat, hb⟩
  obtain ⟨c, r, rfl⟩ := List.exists_cons_of_ne_nil hp
  obtain ⟨g, o, rfl, _⟩ := hat 0 c rfl
  intro h; cases h
theorem itoa_ne (v : Int) : itoa v ≠ [] := by
  unfold itoa
  split
  · simp
  · exact digs_ne _
theorem itoa_len (v : Int) (h1 : -4611686018427387904 ≤ v) (h2 : v ≤ 4611686018427387904) : (itoa v).length ≤ 131072 := by
  have := digs_len 18 v.natAbs (by omega)
  unfold itoa
  split
  · simp; omega
  · omega

set_option maxRecDepth 100000 in
set_option maxHeartbeats 4000000 in
theorem lawShift (neg : Bool) (a0 a1 a2 : Option Addr) (n0 n1 n2 c0 c1 c2 : Nat) (wh fr ex : List UInt8) (w : World)
    (h0 : wh.length = n0) (h1 : fr.length = n1) (h2 : ex.length = n2) (e0 : a0 = none → n0 = 0) (e1 : a1 = none → n1 = 0) (e2 : a2 = none → n2 = 0)
    (g0 : BAt w a0 wh) (g1 : BAt w a1 fr) (g2 : BAt w a2 ex) (hE : Errs w) :
    Calls Tryd.prog 4 #[.bool neg, .slice a0 n0 c0, .slice a1 n1 c1, .slice a2 n2 c2] w fun e w' => Good w e w' := by
  go_enter Tryd.func4, Tryd.ntmps4
  go_wp2_with fail
  refine (zzBytes14_any neg a0 a1 a2 n0 n1 n2 c0 c1 c2 w).mono ?_
  rintro e w' ⟨⟨r, rfl⟩, hw⟩
  subst hw
  cases r with
  | false =>
    go_wp2
    go_ret
    exact ⟨rfl, Below.refl _ _⟩
  | true =>
    by_cases hbad : 65536 < n0 ∨ 65536 < n1 ∨ 65536 < n2
    · go_wp2_with fail
      all_goals first | (go_ret; exact ⟨rfl, Below.refl _ _⟩) | (exfalso; omega)
    · have l0 : n0 ≤ 65536 := by omega
      have l1 : n1 ≤ 65536 := by omega
      have l2 : n2 ≤ 65536 := by omega
      clear hbad
      have hD0 := onlyDigits_any a0 n0 c0 wh _ h0 l0 g0
      have hD1 := onlyDigits_any a1 n1 c1 fr _ h1 l1 g1
      cases ho0 : wh.all okB with
      | false =>
        rw [ho0] at hD0
        go_wp2_with fail
        refine hD0.mono ?_
        rintro e w1 ⟨rfl, hw1⟩
        subst hw1
        go_wp2
        go_ret
        exact ⟨rfl, Below.refl _ _⟩
      | true =>
        rw [ho0] at hD0
        go_wp2_with fail
        refine hD0.mono ?_
        rintro e w1 ⟨rfl, hw1⟩
        subst hw1
        cases ho1 : fr.all okB with
        | false =>
          rw [ho1] at hD1
          go_wp2_with fail
          refine hD1.mono ?_
          rintro e w1 ⟨rfl, hw1⟩
          subst hw1
          go_wp2
          go_ret
          exact ⟨rfl, Below.refl _ _⟩
        | true =>
          rw [ho1] at hD1
          go_wp2_with fail
          refine hD1.mono ?_
          rintro e w1 ⟨rfl, hw1⟩
          subst hw1
          clear hD0 hD1 ho0 ho1
          go_upto_if 48 with fail
          go_cut [9, 10, 11] (fun v9 _ _ wx => Cut3 a2 ex w1 v9 wx)
          case first =>
            clear e0 e1 e2
            cases a2 with
            | none =>
              have HREL : Hid (Cut3 none ex w1 (.int .i64 0) w1) := ⟨0, rfl, by omega, by omega, rfl, rfl⟩
              go_wp2
              go_meet
              exact HREL.out
            | some adx =>
              have hPE := parseExp_any (some adx) n2 c2 ex w1 h2 l2 g2
              rw [pe_parse] at hPE
              cases hx : expOf (strip ex) with
              | none =>
                rw [hx] at hPE
                clear hx
                go_wp2_with fail
                refine hPE.mono ?_
                rintro e w' ⟨rfl, rfl⟩
                simp only [expRes]
                go_wp2
                go_ret
                exact ⟨rfl, Below.refl _ _⟩
              | some v =>
                rw [hx] at hPE
                have HX : Hid _ := hx
                clear hx
                go_wp2_with fail
                refine hPE.mono ?_
                rintro e w' ⟨rfl, rfl⟩
                simp only [expRes]
                by_cases hv : v ≤ 2305843009213693952 ∧ -2305843009213693952 ≤ v
                · have HREL : Hid (Cut3 (some adx) ex w' (.int .i64 v) w') := ⟨v, rfl, hv.2, hv.1, HX.out, rfl⟩
                  have d1 : decide (2305843009213693952 < v) = false := by simp; omega
                  have d2 : decide (v < -2305843009213693952) = false := by simp; omega
                  clear hv
                  go_wp2
                  go_meet
                  exact HREL.out
                · go_wp2
                  all_goals first | (go_ret; exact ⟨rfl, Below.refl _ _⟩) | (exfalso; omega)
          case rest =>
            obtain ⟨p, rfl, hp1, hp2, hexp, rfl⟩ := hcut
            rename World => w
            have HEX : Hid _ := hexp
            clear hexp
            go_wp2_with fail
            refine (clone_any a0 n0 c0 wh _ h0 (by omega) e0 g0).mono ?_
            rintro e wa ⟨b0, d0, rfl, -, -, -, -, q0, hba⟩
            go_wp2_with fail
            refine (clone_any a1 n1 c1 fr _ h1 (by omega) e1 (g1.later hba)).mono ?_
            rintro e wb ⟨b1, d1, rfl, -, -, -, hnf, q1, hbb⟩
            go_wp2_with fail
            refine (clone_any a2 n2 c2 ex _ h2 (by omega) e2 ((g2.later hba).later hbb)).mono ?_
            rintro e wc ⟨b2, d2, rfl, -, -, hn2, -, q2, hbc⟩
            have HEX2 : Hid (ExpIs b2 ex p) := by
              show ExpIs _ _ _
              have h := HEX.out
              unfold ExpIs optOf at *
              rw [hn2]
              exact h
            have q0c := (q0.later hbb).later hbc
            have q1c := q1.later hbc
            have hbw := below_step (below_step hba hbb) hbc
            have hEc := hE.later hbw
            clear g0 g1 g2 q0 q1 e0 e1 e2 hba hbb hbc hE hn2 HEX
            subst h0 h1 h2
            go_wp2_with fail
            refine (concat_any b0 b1 _ _ d0 d1 wh fr wc rfl rfl (by omega) (by omega) q0c q1c).mono ?_
            rintro e wd ⟨am, cm, rfl, -, -, qm, hbd⟩
            have hshl : (wh ++ fr).length ≤ 131072 := by rw [List.length_append]; omega
            generalize hsh : wh ++ fr = sh at *
            have HSH : Hid (wh ++ fr = sh) := hsh
            clear hsh
            have q0d := q0c.later hbd
            have q1d := q1c.later hbd
            have q2d := q2.later hbd
            have hEd := hEc.later hbd
            have hbwd := below_step hbw hbd
            clear q0c q1c q2 hEc hbd hbw
            have hsl := strip_len_le fr
            go_wp2_with fail
            refine (countDigits_any b1 fr.length d1 fr wd rfl l1 q1d).mono ?_
            rintro e we ⟨rfl, rfl⟩
            have k1 : -4611686018427387904 ≤ p - ((strip fr).length : Int) := by omega
            have k2 : p - ((strip fr).length : Int) ≤ 4611686018427387904 := by omega
            have k3 : IntKind.i64.wrap (p - ((strip fr).length : Int)) = p - ((strip fr).length : Int) := IntWalk.i64_in _ ⟨by omega, by omega⟩
            have hIT := itoa_any _ we k1 k2
            have hil := itoa_len _ k1 k2
            go_wp2_with fail
            refine hIT.mono ?_
            clear hIT
            rintro e wf hNB
            obtain ⟨ai, ci, rfl, hai, qi, hbf⟩ := hNB.some (itoa_ne _)
            have q0f := q0d.later hbf
            have q1f := q1d.later hbf
            have q2f := q2d.later hbf
            have qmf := qm.later hbf
            have hEf := hEd.later hbf
            have hbwf := below_step hbwd hbf
            clear q0d q1d q2d hEd hbf hbwd qm hNB k3
            have hS := dec_shift neg wh fr b2 ai ex p HEX2.out hai k1 k2
            rw [HSH.out] at hS
            have hT := dec_true neg wh fr b2 ex p HEX2.out
            clear HEX2 hai k1 k2
            generalize itoa (p - ((strip fr).length : Int)) = it at *
            have hD1 := zzdec_any neg b0 b1 b2 d0 d1 d2 wh fr ex wf (by omega) (by omega) (by omega) q0f q1f q2f hnf hEf
            generalize dec neg wh fr (optOf b2 ex) = r at *
            obtain ⟨r1, r2, r3⟩ := r
            simp only at hT
            subst hT
            go_wp2_with fail
            refine hD1.mono ?_
            clear hD1
            rintro e wg ⟨rfl, hbg⟩
            have hD2 := zzdec_any neg am none ai cm 0 ci sh [] it wg hshl (by simp) hil (qmf.later hbg) (BAt.nil _ _) (qi.later hbg) (fun _ => ⟨rfl, rfl⟩) (hEf.later hbg)
            rw [hS] at hD2
            clear hS
            have HB : Hid _ := below_step hbwf hbg
            clear q0f q1f q2f qmf qi hEf hbg hbwf
            simp only
            go_wp2_with fail
            refine hD2.mono ?_
            clear hD2
            rintro e wh' ⟨rfl, hbh⟩
            have HB2 : Hid _ := below_step HB.out hbh
            clear HB hbh
            have x1 : (r1.toList == r1.toList) = true := by simp
            have x2 : (r2 == r2) = true := by simp
            simp only
            go_wp2
            go_ret
            exact ⟨rfl, HB2.out⟩

end Go.Proofs.Qxb6600715aDoor
