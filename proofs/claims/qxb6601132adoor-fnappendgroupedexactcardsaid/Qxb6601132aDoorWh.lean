/-
  Seat b6601132aD: the walk of groupedText, the law's model (its main part). By an AI agent (seat 043).
-/
import Derived.Test.Qxb6601132aDoorWg
set_option linter.unusedSimpArgs false
set_option linter.unusedVariables false
namespace Go.Proofs.Qxb6601132aDoor
open Go.RowKit

/-- A new slice of bytes; nothing old has turned. -/
def NewC (w : World) (bs : List UInt8) (x : Ending) (w' : World) : Prop := ∃ a cap, x = .returned (.slice a bs.length cap) ∧ BAt w' a bs ∧ Below w.heap.size w w'
/-- Behind the sign. -/
def HCut1 (l : List UInt8) (w : World) (v4 : Value) (wx : World) : Prop := v4 = .string (Str (body l)) ∧ wx = w
/-- Behind the point. -/
def HCut2 (W F : List UInt8) (P : Bool) (w : World) (v5 v6 v7 : Value) (wx : World) : Prop := v5 = .string (Str W) ∧ v6 = .string (Str F) ∧ v7 = .bool P ∧ wx = w
/-- The loop over the groups. -/
def HRel (w : World) (pre W : List UInt8) (v i : Value) (wr : World) : Prop :=
  ∃ (k : Nat) (done : List UInt8), k ≤ W.length ∧ (W.length - k) % 3 = 0 ∧ i = .int .i64 (k : Int) ∧ done ++ ins false (W.drop k) = pre ++ ins true W ∧ OwnB wr w.heap.size v done ∧ Below w.heap.size w wr
def HCut3 (w : World) (pre : List UInt8) (v : Value) (wx : World) : Prop := OwnB wx w.heap.size v pre ∧ Below w.heap.size w wx
def firstOf (n : Nat) : Nat := if n % 3 = 0 then 3 else n % 3
theorem first_ok (n : Nat) (h : 0 < n) : 1 ≤ firstOf n ∧ firstOf n ≤ 3 ∧ firstOf n ≤ n ∧ (n - firstOf n) % 3 = 0 := by
  unfold firstOf
  split <;> omega
def HCut4 (n : Nat) (w : World) (v : Value) (wx : World) : Prop := v = .int .i64 (firstOf n : Int) ∧ wx = w
theorem dot_frac (d : List UInt8) (h : rest d ≠ []) : whole d = d.take (whole d).length ∧ frac d = d.drop ((whole d).length + 1) ∧ (whole d).length + 1 ≤ d.length := by
  have hwr := whole_rest d
  refine ⟨?_, ?_, ?_⟩
  · have := List.take_left (l₁ := whole d) (l₂ := rest d)
    rw [hwr] at this
    exact this.symm
  · have := List.drop_left (l₁ := whole d) (l₂ := rest d)
    rw [hwr] at this
    unfold frac
    rw [← List.drop_drop, this]
  · have := congrArg List.length hwr
    rw [List.length_append] at this
    have := List.length_pos_iff.2 h
    omega

set_option maxRecDepth 100000 in
set_option maxHeartbeats 4000000 in
theorem gt_any (l : List UInt8) (w : World) (hll : l.length ≤ 1048576) : Calls Tryd.prog 9 #[.string (Str l)] w fun e w' => NewC w (grp l) e w' := by
  obtain ⟨i0, hi, hz0, hz1, hz2⟩ := info_parts info5
  have b1 := body_len l
  have b2 := whole_len (body l)
  have b3 := frac_len (body l)
  go_enter Tryd.func9, Tryd.ntmps9
  obtain ⟨N, hN⟩ : ∃ N, N = ng l := ⟨_, rfl⟩
  have HN : Hid (N = ng l) := hN
  have hgo : (l = [] ∧ N = false) ∨ ∃ c r, l = c :: r ∧ N = ((c.toNat : Int) == 45) := by
    cases l with
    | nil => exact .inl ⟨rfl, hN⟩
    | cons c r =>
      refine .inr ⟨c, r, rfl, ?_⟩
      rw [hN]
      show (c == 45) = _
      by_cases h : c = 45
      · subst h; rfl
      · have e1 : ((c.toNat : Int) == 45) = false := beqN 45 (by omega) h
        rw [e1, beq_eq_false_iff_ne]; exact h
  clear hN
  rcases hgo with ⟨rfl, rfl⟩ | ⟨c, r, hl, hNc⟩
  · have hD := dot_any [] w (by simp)
    have hA := digits_any [] w (by simp)
    obtain ⟨p6, c6, wz, hcv, q6, hbz, -⟩ := str_bytes w []
    have HFIN : Hid (∀ c, NewC w (grp []) (.returned (.slice p6 0 c)) wz) := fun c => ⟨_, _, rfl, q6, hbz⟩
    clear q6 hbz
    go_wp2_with fail
    refine hD.mono ?_
    rintro e w' ⟨rfl, rfl⟩
    clear hD
    go_wp2_with fail
    refine hA.mono ?_
    rintro e w' ⟨rfl, rfl⟩
    clear hA
    go_wp2
    go_ret
    exact HFIN.out _
  · have hl0 : 0 < l.length := by rw [hl]; simp
    have hsi : ∀ h, (Str l)[0]'h = c := fun h => str_get (by rw [hl]; rfl) h
    have HL : Hid (l = c :: r) := hl
    have hNc' := hNc.symm
    clear hl hNc
    go_upto_if 21 with fail
    clear hsi hNc'
    go_cut [4] (fun v4 wx => HCut1 l w v4 wx)
    case first =>
      cases N with
      | false =>
        have HREL : Hid (HCut1 l w (.string (Str l)) w) := ⟨by rw [body_f l HN.out.symm], rfl⟩
        go_wp2
        go_meet
        exact HREL.out
      | true =>
        have hx : (Str l).extract 1 l.length = Str (body l) := by rw [str_ext, body_t l HN.out.symm, List.take_of_length_le (by simp)]
        have HREL : Hid (HCut1 l w (.string (Str (body l))) w) := ⟨rfl, rfl⟩
        go_wp2
        go_meet
        exact HREL.out
    case rest =>
      obtain ⟨rfl, rfl⟩ := hcut
      rename World => w
      have HG : Hid _ := grp_of l
      have HNE : Hid (l ≠ []) := by show _ ≠ _; rw [HL.out]; simp
      have hNg := HN.out.symm
      clear HN HL
      generalize body l = D at *
      have hD := dot_any D w (by omega)
      go_wp2_with fail
      refine hD.mono ?_
      rintro e w' ⟨rfl, rfl⟩
      clear hD
      have hpos : decide (0 ≤ dotAt D) = hasPt D := by
        unfold dotAt hasPt
        by_cases h : rest D = []
        · simp [h]
        · simp [h]
      have HX : Hid (hasPt D = false → whole D = D ∧ frac D = []) := by
        show _ → _
        intro hp
        have hr : rest D = [] := by unfold hasPt at hp; simpa using hp
        refine ⟨?_, by unfold frac; rw [hr]; rfl⟩
        have := whole_rest D
        rw [hr, List.append_nil] at this
        exact this
      have HY : Hid (hasPt D = true → 0 ≤ dotAt D ∧ dotAt D + 1 ≤ (D.length : Int) ∧ (Str D).extract 0 (dotAt D).toNat = Str (whole D) ∧ (Str D).extract (dotAt D + 1).toNat D.length = Str (frac D)) := by
        show _ → _
        intro hp
        have hr : rest D ≠ [] := by unfold hasPt at hp; simpa using hp
        obtain ⟨h1, h2, h3⟩ := dot_frac D hr
        have hdd : dotAt D = ((whole D).length : Int) := by unfold dotAt; rw [if_neg hr]
        have hdd1 : (dotAt D + 1).toNat = (whole D).length + 1 := by rw [hdd]; omega
        refine ⟨by omega, by omega, ?_, ?_⟩
        · rw [hdd, Int.toNat_natCast, str_ext, List.drop_zero, Nat.sub_zero, ← h1]
        · rw [hdd1, str_ext, h2, List.take_of_length_le (by simp)]
      generalize dotAt D = dt at *
      generalize whole D = W at *
      generalize frac D = F at *
      generalize hasPt D = P at *
      rw [hNg] at HG
      clear hNg
      go_upto_if 28 with fail
      go_cut [5, 6, 7] (fun v5 v6 v7 wx => HCut2 W F P w' v5 v6 v7 wx)
      case first =>
        cases P with
        | false =>
          have HREL : Hid (HCut2 W F false w' (.string (Str D)) (.string (Str [])) (.bool false) w') := ⟨by rw [(HX.out rfl).1], by rw [(HX.out rfl).2], rfl, rfl⟩
          clear HX HY HG b2 b3
          go_wp2
          go_meet
          exact HREL.out
        | true =>
          obtain ⟨t0, t1, x1, x2⟩ := HY.out rfl
          have HREL : Hid (HCut2 W F true w' (.string (Str W)) (.string (Str F)) (.bool true) w') := ⟨rfl, rfl, rfl, rfl⟩
          have t2 : dt ≤ (D.length : Int) := by omega
          have t3 : 0 ≤ dt + 1 := by omega
          have x3 : IntKind.i64.wrap (dt + 1) = dt + 1 := IntWalk.i64_in _ ⟨by omega, by omega⟩
          clear HX HY HG b2 b3
          go_wp2
          go_meet
          exact HREL.out
      case rest =>
        obtain ⟨rfl, rfl, rfl, rfl⟩ := hcut
        clear hpos HX HY
        have hA := digits_any W wc (by omega)
        by_cases hnum : W ≠ [] ∧ W.all isDig = true
        · have hnb : numB W = true := by unfold numB; simp [hnum.1, hnum.2]
          have HE : Hid (grp l = (if N then [45] else []) ++ ins true W ++ (if P then 46 :: F else [])) := by
            show _ = _
            rw [HG.out, if_pos hnum]
          have hWp : 0 < W.length := List.length_pos_iff.2 hnum.1
          rw [hnb] at hA
          clear HG hnb hnum
          go_wp2_with fail
          refine hA.mono ?_
          clear hA
          rintro e w' ⟨rfl, rfl⟩
          obtain ⟨f1, f2, f3, f4⟩ := first_ok W.length hWp
          have b4 := ins_len W true
          obtain ⟨q1, hq1⟩ : ∃ q1 : Nat, q1 = l.length + l.length / 3 := ⟨_, rfl⟩
          have e46 : IntKind.i64.wrap ((l.length : Int) + (l.length : Int) / 3) = (q1 : Int) := by rw [IntWalk.i64_in _ ⟨by omega, by omega⟩]; omega
          have e47 : IntKind.i64.wrap ((q1 : Int) + 2) = ((q1 + 2 : Nat) : Int) := by rw [IntWalk.i64_in _ ⟨by omega, by omega⟩]; omega
          have hq1b : q1 ≤ 2097152 := by omega
          clear hq1
          go_upto_if 49 with (at_make; refine wpList_make_own _ rfl _ _ 22 rfl w'.heap.size 5 i0 (.int .u8 0) 1 Tryd.underlying22 hi hz0 hz1 .i64 .i64 _ (q1 + 2) rfl rfl rfl (by rw [hz2]; omega) (by unfold maxLen; omega) (Nat.le_refl _) ?_; intro w1 hown hgrow)
          have hb1 : Below w'.heap.size w' w1 := (Below.refl _ _).grown hgrow (Nat.le_refl _) (fun k h => by cases h)
          clear hgrow e46 e47
          go_cut [9] (fun v9 wx => HCut3 w' (if N then [45] else []) v9 wx)
          case first =>
            cases N with
            | false =>
              have HREL : Hid (HCut3 w' (if false = true then [45] else []) (.slice (some ⟨w'.heap.size, 0, none⟩) 0 (q1 + 2)) w1) := ⟨hown, hb1⟩
              clear hown hb1
              go_wp2
              go_meet
              exact HREL.out
            | true =>
              have ho4 := owns_later hown ((Below.refl _ _).alloc (Nat.le_refl _) (.cells #[.int .u8 45] 5))
              have hnew := cell_one_new w1 (.int .u8 45) 5
              have hsz := hb1.size
              go_wp2_with (at_builtin; refine wpList_append_own _ rfl (.tmp 50) (.tmp 51) 22 rfl w'.heap.size 5 i0 (.int .u8 0) 1 1 Tryd.underlying22 hi hz0 hz1 hz2 rfl (by decide) _ _ _ rfl ho4 ⟨_, 0, none⟩ 1 1 [.int .u8 45] rfl rfl hnew (one_u8 45) (by unfold maxLen; omega) (by omega) (by simp; omega) ?_; intro v5 w5 ho5 hg5 hn5)
              have HREL : Hid (HCut3 w' (if true = true then [45] else []) v5 w5) := ⟨by show w5.ownsRow _ _ _ _ _ _; simpa [byteVals] using ho5, (hb1.alloc hb1.size _).grown hg5 (by simp; omega) (fun g hg => (ho4.lt g hg).1)⟩
              clear hown hb1 ho4 hnew ho5 hg5 hn5 hsz
              go_wp2
              go_meet
              exact HREL.out
          case rest =>
            rename World => w9
            obtain ⟨ho9, hb9⟩ := hcut
            clear hown hb1
            have hpl : (if N then [45] else ([] : List UInt8)).length ≤ 1 := by cases N <;> simp
            generalize hpre : (if N then [45] else ([] : List UInt8)) = pre at *
            have HE3 : Hid (grp l = pre ++ ins true W ++ (if P then 46 :: F else [])) := HE.out
            clear hpre HE
            go_upto_if 57 with fail
            go_cut [10] (fun v10 wx => HCut4 W.length w9 v10 wx)
            case first =>
              by_cases h3 : W.length % 3 = 0
              · have m3 : (((W.length : Int) % 3) == 0) = true := by rw [beq_iff_eq]; omega
                have HREL : Hid (HCut4 W.length w9 (.int .i64 3) w9) := ⟨by unfold firstOf; rw [if_pos h3]; rfl, rfl⟩
                clear h3
                go_wp2
                go_meet
                exact HREL.out
              · have m3 : (((W.length : Int) % 3) == 0) = false := by rw [beq_eq_false_iff_ne]; omega
                have HREL : Hid (HCut4 W.length w9 (.int .i64 ((W.length : Int) % 3)) w9) := ⟨by unfold firstOf; rw [if_neg h3]; rfl, rfl⟩
                clear h3
                go_wp2
                go_meet
                exact HREL.out
            case rest =>
              obtain ⟨rfl, rfl⟩ := hcut
              rename World => w9
              have HF : Hid (ins true W = W.take (firstOf W.length) ++ ins false (W.drop (firstOf W.length))) := ins_first W _ f3 f1 f2 f4
              generalize firstOf W.length = k0 at *
              have x1 : (Str W).extract 0 k0 = Str (W.take k0) := by rw [str_ext, List.drop_zero, Nat.sub_zero]
              have i1 : (k0 : Int) ≤ (W.length : Int) := by omega
              have htl : (W.take k0).length = k0 := by rw [List.length_take]; omega
              have hsz9 := hb9.size
              have HF4 : Hid _ := f4
              have HTL : Hid _ := htl
              clear f4 htl
              go_wp2_with (at_builtin; refine Lib.wpList_append_own_string _ rfl (.tmp 58) (.tmp 61) 22 9 rfl w'.heap.size 5 i0 Tryd.underlying22 Tryd.underlying9 hi hz0 hz1 hz2 _ _ _ rfl ho9 (Str (W.take k0)) rfl (by rw [str_size, HTL.out]; unfold maxLen; omega) (by rw [str_size, HTL.out]; omega) hsz9 ?_; intro v7 w7 ho7 hg7 hn7)
              have hb7 : Below w'.heap.size w' w7 := hb9.grown hg7 hb9.size (fun g hg => (ho9.lt g hg).1)
              have HST : Hid (HRel w' pre W v7 (.int .i64 (k0 : Int)) w7) := by
                refine ⟨k0, pre ++ W.take k0, f3, HF4.out, rfl, by rw [HF.out, List.append_assoc], ?_, hb7⟩
                show w7.ownsRow _ _ _ _ _ _
                rw [strCells_str, str_size] at ho7
                simpa [byteVals] using ho7
              clear ho9 hb9 ho7 hg7 hn7 hb7 x1 hsz9 HF HF4 HTL
              go_wp2
              go_loopw [9, 11] (fun v i wr => HRel w' pre W v i wr) (fun _ i _ => W.length - (intOf i).toNat)
              case atStart => exact HST.out
              case round =>
                rename World => W0
                clear HST
                obtain ⟨k, done, hk, hk3, rfl, hdone, ho, hb⟩ := hrel
                have hdl : done.length ≤ 1 + 2 * 1048576 := by
                  have := congrArg List.length hdone
                  rw [List.length_append, List.length_append] at this
                  omega
                have hsz := hb.size
                by_cases hlt : k < W.length
                · have hk33 : k + 3 ≤ W.length := by omega
                  have hstep := ins_step (W.drop k) (by rw [List.length_drop]; exact hk3) (by rw [List.length_drop]; omega)
                  have HD2 : Hid ((done ++ [44] ++ (W.drop k).take 3) ++ ins false (W.drop (k + 3)) = pre ++ ins true W) := by
                    show _ = _
                    rw [← hdone, hstep, List.drop_drop]
                    simp
                  have HK3 : Hid ((W.length - (k + 3)) % 3 = 0) := by show _ = _; omega
                  have x2 : (Str W).extract k (k + 3) = Str ((W.drop k).take 3) := by rw [str_ext]; congr 2; omega
                  have x3 : (Str W).extract k ((k : Int) + 3).toNat = Str ((W.drop k).take 3) := by
                    have : ((k : Int) + 3).toNat = k + 3 := by omega
                    rw [this, x2]
                  have HTL : Hid (((W.drop k).take 3).length = 3) := by show _ = _; rw [List.length_take, List.length_drop]; omega
                  have i2 : (k : Int) < (W.length : Int) := by omega
                  have i3 : (0 : Int) ≤ (k : Int) := by omega
                  have i4 : (k : Int) + 3 ≤ (W.length : Int) := by omega
                  have e3 : IntKind.i64.wrap ((k : Int) + 3) = ((k + 3 : Nat) : Int) := by rw [IntWalk.i64_in _ ⟨by omega, by omega⟩]; omega
                  clear hdone hstep hk3
                  generalize (W.drop k).take 3 = T at *
                  have ho4 := owns_later ho ((Below.refl _ _).alloc (Nat.le_refl _) (.cells #[.int .u8 44] 5))
                  have hnew := cell_one_new W0 (.int .u8 44) 5
                  go_wp2_with (first
                    | (at_builtin; refine wpList_append_own _ rfl (.tmp 70) (.tmp 71) 22 rfl w'.heap.size 5 i0 (.int .u8 0) 1 1 Tryd.underlying22 hi hz0 hz1 hz2 rfl (by decide) _ _ _ rfl ho4 ⟨_, 0, none⟩ 1 1 [.int .u8 44] rfl rfl hnew (one_u8 44) (by unfold maxLen; omega) (by omega) (by simp; omega) ?_; intro v5 w5 ho5 hg5 hn5; have hb5 : Below w'.heap.size w' w5 := (hb.alloc hb.size _).grown hg5 (by simp; omega) (fun g hg => (ho4.lt g hg).1); clear hg5 hn5 ho4 hnew; have hsz5 := hb5.size)
                    | (at_builtin; refine Lib.wpList_append_own_string _ rfl (.tmp 73) (.tmp 78) 22 9 rfl w'.heap.size 5 i0 Tryd.underlying22 Tryd.underlying9 hi hz0 hz1 hz2 v5 _ _ rfl ho5 (Str T) rfl (by rw [str_size, HTL.out]; unfold maxLen; omega) (by rw [str_size, HTL.out]; omega) hsz5 ?_; intro v7 w7 ho7 hg7 hn7))
                  have hb7 : Below w'.heap.size w' w7 := hb5.grown hg7 hb5.size (fun g hg => (ho5.lt g hg).1)
                  have HREL : Hid (HRel w' pre W v7 (.int .i64 ((k + 3 : Nat) : Int)) w7) := by
                    refine ⟨k + 3, done ++ [44] ++ T, hk33, HK3.out, rfl, HD2.out, ?_, hb7⟩
                    show w7.ownsRow _ _ _ _ _ _
                    rw [strCells_str, str_size] at ho7
                    simpa [byteVals, Nat.add_assoc, Nat.add_comm 1] using ho7
                  clear HD2 HK3 x2 x3 HTL ho ho5 ho7 hg7 hn7 hb hb5 hb7 hsz hsz5
                  go_wp2
                  go_roundw
                  case rel => exact HREL.out
                  case measure => simp [intOf]; omega
                · have hkn : k = W.length := by omega
                  subst hkn
                  rw [List.drop_length] at hdone
                  have e0 : ins false [] = [] := rfl
                  rw [e0, List.append_nil] at hdone
                  subst hdone
                  have HE2 : Hid (grp l = pre ++ ins true W ++ (if P then 46 :: F else [])) := HE3.out
                  clear HE3 hk3
                  generalize pre ++ ins true W = X at *
                  cases P with
                  | false =>
                    have hgX : grp l = X := by rw [HE2.out]; simp
                    obtain ⟨a1, c1, rfl, hc1, hc2, hat⟩ := BAt.of_owns ho
                    have HFIN : Hid (NewC w' (grp l) (.returned (.slice a1 X.length c1)) W0) := by
                      show NewC _ _ _ _
                      rw [hgX]
                      exact ⟨_, _, rfl, hat, hb⟩
                    clear ho hat hb hgX HE2
                    go_wp2
                    go_ret
                    exact HFIN.out
                  | true =>
                    have hgX : grp l = X ++ [46] ++ F := by rw [HE2.out]; simp
                    have ho4 := owns_later ho ((Below.refl _ _).alloc (Nat.le_refl _) (.cells #[.int .u8 46] 5))
                    have hnew := cell_one_new W0 (.int .u8 46) 5
                    have HGX : Hid _ := hgX
                    clear hgX HE2
                    go_wp2_with (first
                      | (at_builtin; refine wpList_append_own _ rfl (.tmp 81) (.tmp 82) 22 rfl w'.heap.size 5 i0 (.int .u8 0) 1 1 Tryd.underlying22 hi hz0 hz1 hz2 rfl (by decide) _ _ _ rfl ho4 ⟨_, 0, none⟩ 1 1 [.int .u8 46] rfl rfl hnew (one_u8 46) (by unfold maxLen; omega) (by omega) (by simp; omega) ?_; intro v5 w5 ho5 hg5 hn5; have hb5 : Below w'.heap.size w' w5 := (hb.alloc hb.size _).grown hg5 (by simp; omega) (fun g hg => (ho4.lt g hg).1); clear hg5 hn5 ho4 hnew; have hsz5 := hb5.size)
                      | (at_builtin; refine Lib.wpList_append_own_string _ rfl (.tmp 84) (.tmp 85) 22 9 rfl w'.heap.size 5 i0 Tryd.underlying22 Tryd.underlying9 hi hz0 hz1 hz2 v5 _ _ rfl ho5 (Str F) rfl (by rw [str_size]; unfold maxLen; omega) (by rw [str_size]; omega) hsz5 ?_; intro v7 w7 ho7 hg7 hn7))
                    have hb7 : Below w'.heap.size w' w7 := hb5.grown hg7 hb5.size (fun g hg => (ho5.lt g hg).1)
                    have ho8 : OwnB w7 w'.heap.size v7 (X ++ [46] ++ F) := by
                      show w7.ownsRow _ _ _ _ _ _
                      rw [strCells_str, str_size] at ho7
                      simpa [byteVals, Nat.add_assoc, Nat.add_comm 1] using ho7
                    rw [← HGX.out] at ho8
                    obtain ⟨a1, c1, rfl, hc1, hc2, hat⟩ := BAt.of_owns ho8
                    have HFIN : Hid (NewC w' (grp l) (.returned (.slice a1 (grp l).length c1)) w7) := ⟨_, _, rfl, hat, hb7⟩
                    clear ho ho5 ho7 ho8 hg7 hn7 hb hb5 hb7 hat HGX hsz hsz5
                    go_wp2
                    go_ret
                    exact HFIN.out
        · have hnb : numB W = false := by
            unfold numB
            cases h : (decide (W ≠ []) && W.all isDig) with
            | false => rfl
            | true => rw [Bool.and_eq_true, decide_eq_true_eq] at h; exact absurd h hnum
          rw [hnb] at hA
          have hE : grp l = l := by rw [HG.out, if_neg hnum]
          obtain ⟨p6, c6, wz, hcv, q6, hbz, -⟩ := str_bytes wc l
          have HFIN : Hid (NewC wc (grp l) (.returned (.slice p6 l.length c6)) wz) := by
            show NewC _ _ _ _
            rw [hE]
            exact ⟨_, _, rfl, q6, hbz⟩
          clear hnb hnum HG hE q6 hbz
          go_wp2_with fail
          refine hA.mono ?_
          clear hA
          rintro e w' ⟨rfl, rfl⟩
          go_wp2
          go_ret
          exact HFIN.out

end Go.Proofs.Qxb6601132aDoor
