/-
  Seat b6601132aD: the law FnAppendGroupedExact. By an AI agent (seat 043).
-/
import Derived.Test.Qxb6601132aDoorWh
set_option linter.unusedSimpArgs false
set_option linter.unusedVariables false
namespace Go.Proofs.Qxb6601132aDoor
open Go.RowKit

def KRel (n : Nat) (w : World) (v : Value) (wr : World) : Prop := ∃ k : Nat, k ≤ n ∧ v = .int .i64 (k : Int) ∧ ∃ m, wr = w.drewN m
/-- Behind the nil test. -/
def NCut (w : World) (v : Value) (wx : World) : Prop := v = .bool false ∧ wx = w

set_option maxRecDepth 100000 in
set_option maxHeartbeats 4000000 in
theorem lawExact (a0 : Option Addr) (n0 c0 : Nat) (bs l : List UInt8) (w : World) (h0 : bs.length = n0) (e0 : a0 = none → n0 = 0) (g0 : BAt w a0 bs)
    (hL : ∀ w', Below w.heap.size w w' → Libs w') :
    Calls Tryd.prog 3 #[.slice a0 n0 c0, .string (Str l)] w fun e w' => Good w e w' := by
  go_enter Tryd.func3, Tryd.ntmps3
  go_wp2_with fail
  refine (zzBytes6_any a0 n0 c0 (Str l) w).mono ?_
  rintro e w' ⟨⟨r, rfl⟩, hw⟩
  subst hw
  cases r with
  | false =>
    go_wp2
    go_ret
    exact ⟨rfl, Below.refl _ _⟩
  | true =>
    by_cases hbad : 1048576 < n0 ∨ 1048576 < l.length
    · go_wp2_with fail
      all_goals first | (go_ret; exact ⟨rfl, Below.refl _ _⟩) | (exfalso; omega)
    · have l0 : n0 ≤ 1048576 := by omega
      have l1 : l.length ≤ 1048576 := by omega
      clear hbad
      have hgl := grp_len l
      subst h0
      rename World => w
      go_wp2_with fail
      refine (clone_any a0 bs.length c0 bs _ rfl (by omega) e0 g0).mono ?_
      rintro e wa hca
      obtain ⟨v0, rfl, ho0, hn0, hba⟩ := id hca
      obtain ⟨p0, d0, rfl, -, -, q0⟩ := BAt.of_owns ho0
      have hp0 : p0 = none → bs.length = 0 := fun h => by
        subst h
        rcases ho0.2 with ⟨_, h⟩ | ⟨g, cap, cur, h, _⟩
        · exact h
        · cases h
      have hi0 : p0.isNone = a0.isNone := by
        cases ha : a0.isNone with
        | true => have := hn0.2 ha; injection this with h; subst h; rfl
        | false =>
          cases p0 with
          | some _ => rfl
          | none =>
            have hz : (Value.slice none bs.length d0) = .slice none 0 0 := by
              rcases ho0.2 with ⟨h, _⟩ | ⟨g, cap, cur, h, _⟩
              · exact h
              · cases h
            have := hn0.1 hz
            rw [ha] at this
            cases this
      go_wp2_with fail
      refine (clone_any p0 bs.length d0 bs wa rfl (by omega) hp0 q0).mono ?_
      rw [hi0]
      rintro e wb hcb
      obtain ⟨v1, rfl, ho1, hn1, hbb⟩ := id hcb
      have hbwb := below_step hba hbb
      have hz := zz_any (.slice p0 bs.length d0) w.heap.size bs l wb hbwb.size (owns_later ho0 hbb) (by omega) (by omega) (hL wb hbwb)
      clear hn1 hbb ho1 hn0 hba ho0 hp0 hi0 q0
      go_wp2_with fail
      refine hz.mono ?_
      clear hz
      rintro e wg hag
      obtain ⟨vg, rfl, -⟩ := id hag
      obtain ⟨a1, ag, c1, cg, A⟩ := ahead hca hcb hag
      obtain ⟨rfl, rfl, q1, qg, hcg, hbg, hn1, hng⟩ := A
      clear hca hcb hag hbwb
      have HNIL : Hid ((a1.isNone = false ∧ ag.isNone = false) ∨ (a1.isNone = true ∧ l = [] ∧ ag.isNone = true) ∨ (a1.isNone = true ∧ l ≠ [] ∧ ag.isNone = false)) := by
        show _ ∨ _
        cases h1 : a0.isNone with
        | false =>
          refine .inl ⟨by rw [hn1, h1], ?_⟩
          cases ag with
          | some _ => rfl
          | none => have := (hng.1 rfl).1; rw [h1] at this; cases this
        | true =>
          by_cases hl : l = []
          · exact .inr (.inl ⟨by rw [hn1, h1], hl, by rw [hng.2 ⟨h1, hl⟩]; rfl⟩)
          · refine .inr (.inr ⟨by rw [hn1, h1], hl, ?_⟩)
            cases ag with
            | some _ => rfl
            | none => exact absurd (hng.1 rfl).2 hl
      clear hn1 hng
      have q22 : ∀ (w : World) (a : Option Addr) (n c n' c' : Nat), (binOp .eql 22 (.slice a n c) (.slice none n' c')).run Tryd.prog w = .ok (.bool a.isNone) w := fun w a n c n' c' => Lib.run_eql_slice_nil w _ _ a n c n' c' Tryd.underlying22
      have hgt := gt_any l wg (by omega)
      generalize grp l = G at *
      obtain ⟨at_, qt, hsl⟩ := slice_from wg ag cg bs G qg hcg
      have hNl : (bs ++ G).length ≤ 4194304 + 1048577 := by rw [List.length_append]; omega
      have e44 : IntKind.i64.wrap ((bs.length : Int) + (G.length : Int)) = (((bs ++ G).length : Nat) : Int) := by rw [List.length_append, IntWalk.i64_in _ ⟨by omega, by omega⟩]; omega
      have hle : bs.length ≤ (bs ++ G).length := by rw [List.length_append]; omega
      generalize hN : (bs ++ G).length = N at *
      have HN : Hid ((bs ++ G).length = N) := hN
      clear hN
      go_upto_region 10 with fail
      go_cut [35] (fun v35 wx => NCut wg v35 wx)
      case first =>
        have HREL : Hid (NCut wg (.bool false) wg) := ⟨rfl, rfl⟩
        rcases HNIL.out with ⟨x1, x2⟩ | ⟨x1, hl, x2⟩ | ⟨x1, hl, x2⟩
        · clear HNIL hgt hsl e44 qg q1 qt
          go_wp2
          go_meet
          exact HREL.out
        · have z0 : ((l.length : Int) == 0) = true := by rw [hl]; rfl
          clear HNIL hgt hsl e44 qg q1 qt hl
          go_wp2
          go_meet
          exact HREL.out
        · have z0 : ((l.length : Int) == 0) = false := by
            rw [beq_eq_false_iff_ne]
            have := List.length_pos_iff.2 hl
            omega
          clear HNIL hgt hsl e44 qg q1 qt hl
          go_wp2
          go_meet
          exact HREL.out
      case rest =>
        obtain ⟨rfl, rfl⟩ := hcut
        rename World => wg
        clear HNIL q22
        go_wp2_with fail
        refine hgt.mono ?_
        clear hgt
        rintro e ww ⟨pw, cw, rfl, qw, hbw⟩
        have qgw := qg.later hbw
        have q1w := q1.later hbw
        have qtw := qt.later hbw
        have hbww := below_step hbg hbw
        clear qg q1 qt hbg hbw g0 hL
        go_wp2
        clear e44
        go_loopw [8] (fun v wr => KRel bs.length ww v wr) (fun v _ => bs.length - (intOf v).toNat)
        case atStart => exact ⟨0, Nat.zero_le _, rfl, 0, rfl⟩
        case round =>
          rename World => W0
          obtain ⟨k, hk, rfl, nd, hW0⟩ := hrel
          by_cases hlt : k < bs.length
          · have hbk : bs[k]? = some (bs[k]) := by simp [hlt]
            have hgk : (bs ++ G)[k]? = some (bs[k]) := by rw [List.getElem?_append_left hlt]; exact hbk
            generalize bs[k] = x at *
            obtain ⟨g1, o1, rfl, y1⟩ := q1w k x hbk
            obtain ⟨g2, o2, rfl, y2⟩ := qgw k x hgk
            have y1' : W0.cell? ⟨g1, o1 + k, none⟩ = some (.int .u8 (x.toNat : Int)) := by rw [hW0]; exact y1
            have y2' : W0.cell? ⟨g2, o2 + k, none⟩ = some (.int .u8 (x.toNat : Int)) := by rw [hW0]; exact y2
            have i1 : (k : Int) < (bs.length : Int) := by omega
            have i2 : (k : Int) < (N : Int) := by omega
            have i3 : (0 : Int) ≤ (k : Int) := by omega
            have bb : ((x.toNat : Int) != (x.toNat : Int)) = false := by simp
            have HW : Hid (W0 = ww.drewN nd) := hW0
            clear hW0 hbk hgk y1 y2 hsl
            go_wp2
            go_quiet (fail)
            go_wp2
            go_roundw
            case rel => exact ⟨k + 1, by omega, by go_num, nd + nq, by rw [HW.out]; exact World.drewN_drewN _ _ _⟩
            case measure => simp [intOf]; omega
          · have hkn : k = bs.length := by omega
            subst hkn
            have hbd : Below ww.heap.size ww W0 := by rw [hW0]; exact below_drewN (Below.refl _ _) nd
            have hS := same_any at_ pw (cg - bs.length) cw G G W0 (by omega) (by omega) (qtw.later hbd) (qw.later hbd)
            rw [decide_eq_true rfl] at hS
            have HB : Hid _ := below_step hbww hbd
            clear hW0 qgw q1w qtw qw hbww hbd
            go_wp2_with fail
            refine hS.mono ?_
            clear hS
            rintro e wz ⟨rfl, nd2, rfl⟩
            go_wp2
            go_ret
            exact ⟨rfl, below_drewN HB.out nd2⟩

end Go.Proofs.Qxb6601132aDoor
