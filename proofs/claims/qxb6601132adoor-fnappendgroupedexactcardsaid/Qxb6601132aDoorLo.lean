/-
  Seat b6601132aD: the law FnAppendGroupedOnlyInsertsCommas. By an AI agent (seat 043).
-/
import Derived.Test.Qxb6601132aDoorLi
import Derived.Lib.ConvBytes
set_option linter.unusedSimpArgs false
set_option linter.unusedVariables false
namespace Go.Proofs.Qxb6601132aDoor
open Go.RowKit

/-- A string's bytes, in new memory. -/
theorem str_bytes (w : World) (l : List UInt8) : ∃ a' c' w', (convert 9 22 (.string (Str l))).run Tryd.prog w = .ok (.slice a' l.length c') w' ∧ BAt w' a' l ∧ Below w.heap.size w w' ∧ a' ≠ none := by
  refine ⟨_, _, _, Lib.run_convert_string_bytes w 9 22 5 (Str l) Tryd.underlying9 Tryd.underlying22 Tryd.underlying5, ?_, ?_, by simp⟩
  · intro k b hk
    refine ⟨_, _, rfl, ?_⟩
    have hl := (List.getElem?_eq_some_iff.1 hk).1
    rw [Nat.zero_add, Lib.bytesWorld_cell w 5 (Str l) k hl]
    simp [List.getD, hk]
  · exact ⟨rfl, rfl, rfl, by rw [Lib.bytesWorld_size]; omega, fun k hk => Lib.bytesWorld_at_old w 5 (Str l) k hk⟩

set_option maxRecDepth 100000 in
set_option maxHeartbeats 4000000 in
theorem lawOnly (a0 : Option Addr) (n0 c0 : Nat) (bs l : List UInt8) (w : World) (h0 : bs.length = n0) (e0 : a0 = none → n0 = 0) (g0 : BAt w a0 bs)
    (hL : ∀ w', Below w.heap.size w w' → Libs w') :
    Calls Tryd.prog 4 #[.slice a0 n0 c0, .string (Str l)] w fun e w' => Good w e w' := by
  go_enter Tryd.func4, Tryd.ntmps4
  go_wp2_with fail
  refine (zzBytes11_any a0 n0 c0 (Str l) w).mono ?_
  rintro e w' ⟨⟨r, rfl⟩, hw⟩
  subst hw
  cases r with
  | false =>
    go_wp2
    go_ret
    exact ⟨rfl, Below.refl _ _⟩
  | true =>
    by_cases hbad : 1048576 < n0 ∨ 1048576 < l.length
    · go_wp2_with fail
      all_goals first | (go_ret; exact ⟨rfl, Below.refl _ _⟩) | (exfalso; omega)
    · have l0 : n0 ≤ 1048576 := by omega
      have l1 : l.length ≤ 1048576 := by omega
      clear hbad
      have hgl := grp_len l
      subst h0
      rename World => w
      go_wp2_with fail
      refine (clone_any a0 bs.length c0 bs _ rfl (by omega) e0 g0).mono ?_
      rintro e wa hca
      obtain ⟨v0, rfl, ho0, hn0, hba⟩ := id hca
      obtain ⟨p0, d0, rfl, -, -, q0⟩ := BAt.of_owns ho0
      have hp0 : p0 = none → bs.length = 0 := fun h => by
        subst h
        rcases ho0.2 with ⟨_, h⟩ | ⟨g, cap, cur, h, _⟩
        · exact h
        · cases h
      have hi0 : p0.isNone = a0.isNone := by
        cases ha : a0.isNone with
        | true => have := hn0.2 ha; injection this with h; subst h; rfl
        | false =>
          cases p0 with
          | some _ => rfl
          | none =>
            have hz : (Value.slice none bs.length d0) = .slice none 0 0 := by
              rcases ho0.2 with ⟨h, _⟩ | ⟨g, cap, cur, h, _⟩
              · exact h
              · cases h
            have := hn0.1 hz
            rw [ha] at this
            cases this
      go_wp2_with fail
      refine (clone_any p0 bs.length d0 bs wa rfl (by omega) hp0 q0).mono ?_
      rw [hi0]
      rintro e wb hcb
      obtain ⟨v1, rfl, ho1, hn1, hbb⟩ := id hcb
      have hbwb := below_step hba hbb
      have hz := zz_any (.slice p0 bs.length d0) w.heap.size bs l wb hbwb.size (owns_later ho0 hbb) (by omega) (by omega) (hL wb hbwb)
      clear hn1 hbb ho1 hn0 hba ho0 hp0 hi0 q0
      go_wp2_with fail
      refine hz.mono ?_
      clear hz
      rintro e wg hag
      obtain ⟨vg, rfl, -⟩ := id hag
      obtain ⟨a1, ag, c1, cg, A⟩ := ahead hca hcb hag
      obtain ⟨rfl, rfl, q1, qg, hcg, hbg, -, -⟩ := A
      clear hca hcb hag hbwb
      have HGG : Hid (plainC (grp l) = plainC l) := grp_plain l
      generalize grp l = G at *
      obtain ⟨at_, qt, hsl⟩ := slice_from wg ag cg bs G qg hcg
      obtain ⟨ah, qh, hsh⟩ := slice_to wg ag cg bs G qg hcg
      have hNl : (bs ++ G).length ≤ 4194304 + 1048577 := by rw [List.length_append]; omega
      have d1 : decide ((bs ++ G).length < bs.length) = false := by simp
      generalize hN : (bs ++ G).length = N at *
      have HN : Hid ((bs ++ G).length = N) := hN
      clear hN
      have hS := same_any ah a1 cg c1 bs bs wg (by omega) (by omega) qh q1
      rw [decide_eq_true rfl] at hS
      go_wp2_with fail
      refine hS.mono ?_
      clear hS
      rintro e wx ⟨rfl, nd, hwx⟩
      have hbx : Below wg.heap.size wg wx := by rw [hwx]; exact below_drewN (Below.refl _ _) nd
      clear hwx
      have hW1 := woc_any at_ (cg - bs.length) G wx (by omega) (qt.later hbx)
      go_wp2_with fail
      refine hW1.mono ?_
      clear hW1
      rintro e wy ⟨p5, c5, rfl, -, -, q5, hby⟩
      obtain ⟨p6, c6, wz, hcv, q6, hbz, -⟩ := str_bytes wy l
      have hW2 := woc_any p6 c6 l wz (by omega) q6
      go_wp2_with fail
      refine hW2.mono ?_
      clear hW2
      rintro e w7 ⟨p7, c7, rfl, -, -, q7, hb7⟩
      have hl1 := plain_len G
      have hl2 := plain_len l
      have hbz7 := below_step hbz hb7
      have hS2 := same_any p5 p7 c5 c7 (plainC G) (plainC l) w7 (by omega) (by omega) (q5.later hbz7) q7
      rw [decide_eq_true HGG.out] at hS2
      have HB : Hid _ := below_step (below_step (below_step hbg hbx) hby) hbz7
      clear hsl hsh hcv d1 hbx hby hbz hb7 hbz7 hbg q1 qg qt qh q5 q6 q7 g0 hL hl1 hl2
      go_wp2_with fail
      refine hS2.mono ?_
      clear hS2
      rintro e w8 ⟨rfl, nd, rfl⟩
      go_wp2
      go_ret
      exact ⟨rfl, below_drewN HB.out nd⟩

end Go.Proofs.Qxb6601132aDoor
