/-
  Seat b6601132aD: the law FnAppendGroupedIdempotent. By an AI agent (seat 043).
-/
import Derived.Test.Qxb6601132aDoorW3
set_option linter.unusedSimpArgs false
set_option linter.unusedVariables false
namespace Go.Proofs.Qxb6601132aDoor
open Go.RowKit

def Good (w : World) (e : Ending) (w' : World) : Prop := e = .returned (.bool true) ∧ Below w.heap.size w w'
theorem below_drewN {B : Nat} {a b : World} (h : Below B a b) (n : Nat) : Below B a (b.drewN n) := h.trans ⟨rfl, rfl, rfl, Nat.le_refl _, fun _ _ => rfl⟩
theorem grp_len (l : List UInt8) : (grp l).length ≤ 3 * l.length + 1 := by
  unfold grp
  split
  · have b1 := body_len l
    have b2 := whole_len (body l)
    have b4 := ins_len (whole (body l)) true
    have hr := congrArg List.length (whole_rest (body l))
    rw [List.length_append] at hr
    rw [grpN_eq, List.length_append, List.length_append]
    have : (if ng l then [45] else ([] : List UInt8)).length ≤ 1 := by split <;> simp
    omega
  · omega

set_option maxRecDepth 100000 in
set_option maxHeartbeats 4000000 in
theorem lawIdem (a0 : Option Addr) (n0 c0 : Nat) (bs l : List UInt8) (w : World) (h0 : bs.length = n0) (e0 : a0 = none → n0 = 0) (g0 : BAt w a0 bs)
    (hL : ∀ w', Below w.heap.size w w' → Libs w') :
    Calls Tryd.prog 5 #[.slice a0 n0 c0, .string (Str l)] w fun e w' => Good w e w' := by
  go_enter Tryd.func5, Tryd.ntmps5
  go_wp2_with fail
  refine (zzBytes13_any a0 n0 c0 (Str l) w).mono ?_
  rintro e w' ⟨⟨r, rfl⟩, hw⟩
  subst hw
  cases r with
  | false =>
    go_wp2
    go_ret
    exact ⟨rfl, Below.refl _ _⟩
  | true =>
    by_cases hbad : 1048576 < n0 ∨ 1048576 < l.length
    · go_wp2_with fail
      all_goals first | (go_ret; exact ⟨rfl, Below.refl _ _⟩) | (exfalso; omega)
    · have l0 : n0 ≤ 1048576 := by omega
      have l1 : l.length ≤ 1048576 := by omega
      clear hbad
      have hgl := grp_len l
      subst h0
      rename World => w
      go_wp2_with fail
      refine (clone_any a0 bs.length c0 bs _ rfl (by omega) e0 g0).mono ?_
      rintro e wa hca
      obtain ⟨v0, rfl, ho0, hn0, hba⟩ := id hca
      obtain ⟨p0, d0, rfl, -, -, q0⟩ := BAt.of_owns ho0
      have hp0 : p0 = none → bs.length = 0 := fun h => by
        subst h
        rcases ho0.2 with ⟨_, h⟩ | ⟨g, cap, cur, h, _⟩
        · exact h
        · cases h
      have hi0 : p0.isNone = a0.isNone := by
        cases ha : a0.isNone with
        | true => have := hn0.2 ha; injection this with h; subst h; rfl
        | false =>
          cases p0 with
          | some _ => rfl
          | none =>
            have hz : (Value.slice none bs.length d0) = .slice none 0 0 := by
              rcases ho0.2 with ⟨h, _⟩ | ⟨g, cap, cur, h, _⟩
              · exact h
              · cases h
            have := hn0.1 hz
            rw [ha] at this
            cases this
      go_wp2_with fail
      refine (clone_any p0 bs.length d0 bs wa rfl (by omega) hp0 q0).mono ?_
      rw [hi0]
      rintro e wb hcb
      obtain ⟨v1, rfl, ho1, hn1, hbb⟩ := id hcb
      have hbwb := below_step hba hbb
      have hz := zz_any (.slice p0 bs.length d0) w.heap.size bs l wb hbwb.size (owns_later ho0 hbb) (by omega) (by omega) (hL wb hbwb)
      clear hn1 hbb ho1 hn0 hba ho0 hp0 hi0 q0
      go_wp2_with fail
      refine hz.mono ?_
      clear hz
      rintro e wg hag
      obtain ⟨vg, rfl, -⟩ := id hag
      obtain ⟨a1, ag, c1, cg, A⟩ := ahead hca hcb hag
      obtain ⟨rfl, rfl, q1, qg, hcg, hbg, -, -⟩ := A
      clear hca hcb hag hbwb
      have HGG : Hid (grp (grp l) = grp l) := grp_grp l
      generalize grp l = G at *
      obtain ⟨at_, qt, hsl⟩ := slice_from wg ag cg bs G qg hcg
      have hcv := conv_any at_ (cg - bs.length) G wg qt
      have hNl : (bs ++ G).length ≤ 4194304 + 1048577 := by rw [List.length_append]; omega
      have d1 : decide ((bs ++ G).length < bs.length) = false := by simp
      generalize hN : (bs ++ G).length = N at *
      have HN : Hid ((bs ++ G).length = N) := hN
      clear hN
      have e1 : a1 = none → bs.length = 0 := fun h => by
        subst h
        cases hb : bs with
        | nil => rfl
        | cons c r =>
          rw [hb] at q1
          obtain ⟨g, o, h, _⟩ := q1 0 c rfl
          cases h
      go_wp2_with fail
      refine (clone_any a1 bs.length c1 bs wg rfl (by omega) e1 q1).mono ?_
      rintro e wh ⟨v2, rfl, ho2, -, hbh⟩
      have hbwh := below_step hbg hbh
      have hz := zz_any v2 wg.heap.size bs G wh hbh.size ho2 (by omega) (by omega) (hL wh hbwh)
      clear hsl hcv d1
      go_wp2_with fail
      refine hz.mono ?_
      clear hz
      rintro e ws ⟨v3, rfl, ho3, hg3, -⟩
      have hbs : Below wg.heap.size wg ws := hbh.trans ⟨hg3.os, hg3.tape, hg3.output, hg3.size, fun k hk => hg3.block k (by have := hbh.size; omega) (fun e => by have := (ho2.lt k e.symm).1; omega)⟩
      rw [HGG.out] at ho3
      obtain ⟨p3, d3, rfl, -, -, q3⟩ := BAt.of_owns ho3
      have hS := same_any ag p3 cg d3 (bs ++ G) (bs ++ G) ws (by rw [HN.out]; omega) (by rw [HN.out]; omega) (qg.later hbs) q3
      rw [HN.out, decide_eq_true rfl] at hS
      rw [HN.out]
      have HB : Hid _ := below_step hbg hbs
      clear ho2 hbh hbwh ho3 hg3 hbs hbg q1 qg qt q3 g0 hL
      go_wp2_with fail
      refine hS.mono ?_
      clear hS
      rintro e wz ⟨rfl, nd, rfl⟩
      go_wp2
      go_ret
      exact ⟨rfl, below_drewN HB.out nd⟩

end Go.Proofs.Qxb6601132aDoor
