/-
  Seat b6601221aD: ZZSignificand; copies; the law's first part. By an AI agent (seat 043).
-/
import Derived.Test.Qxb6601221aDoorPl
import Derived.Laws.AppendOwnNone
set_option linter.unusedSimpArgs false
set_option linter.unusedVariables false
namespace Go.Proofs.Qxb6601221aDoor
open Go.RowKit

set_option maxRecDepth 100000 in
set_option maxHeartbeats 1000000 in
theorem zzsig_any (aw af ae : Option Addr) (cw cf ce : Nat) (wh fr ex : List UInt8) (v : Int) (w : World) (lw : wh.length ≤ 65536) (lf : fr.length ≤ 65536) (le : ex.length ≤ 65536)
    (kw : wh.length ≤ cw) (kf : fr.length ≤ cf) (mw : cw ≤ 9223372036854775807) (mf : cf ≤ 9223372036854775807)
    (hw : BAt w aw wh) (hf : BAt w af fr) (he : BAt w ae ex) (hv : ExpV ex v) :
    Calls Tryd.prog 7 #[.slice aw wh.length cw, .slice af fr.length cf, .slice ae ex.length ce] w fun e w' => SigRes wh fr v w e w' := by
  have h := sig_any aw af ae cw cf ce wh fr ex v w lw lf le kw kf mw mf hw hf he hv
  clear hv
  go_enter Tryd.func7, Tryd.ntmps7
  go_wp2_with fail
  refine h.mono ?_
  clear h
  rintro e w' ⟨ah, ch, al, cl, rfl, qh, ql, hb⟩
  have HFIN : Hid (SigRes wh fr v w (.returned (.tuple #[.slice ah (sigHi wh fr).length ch, .slice al (sigLo wh fr).length cl, .int .i64 (sigN wh fr + v)])) w') := ⟨ah, ch, al, cl, rfl, qh, ql, hb⟩
  clear qh ql hb hw hf he
  go_wp2
  go_ret3
  exact HFIN.out

/-- Behind a copy. -/
def CCut (w : World) (bs : List UInt8) (v : Value) (wx : World) : Prop :=
  ∃ a c, v = .slice a bs.length c ∧ bs.length ≤ c ∧ c ≤ 9223372036854775807 ∧ (a = none → bs = [] ∧ c = 0) ∧ BAt wx a bs ∧ Below w.heap.size w wx
theorem ccut_of {w w2 : World} {bs : List UInt8} {L : List Value} (hm : bs.length ≤ 65536) (hl : L.length = bs.length) (h : w2.heap[w.heap.size]? = some (.cells (splice L 0 (byteVals bs)).toArray 5 (0, 0))) (hb : Below w.heap.size w w2) :
    CCut w bs (.slice (some ⟨w.heap.size, 0, none⟩) bs.length bs.length) w2 := by
  rw [splice_all _ _ (by rw [hl, byteVals_len])] at h
  have ho := owns_of_block (base := w.heap.size) (byteVals_len bs) (Nat.le_refl _) (by unfold maxLen; omega) h
  obtain ⟨a1, c1, e1, hc1, hc2, hat⟩ := BAt.of_owns ho
  cases e1
  exact ⟨_, _, rfl, hc1, hc2, (fun h => nomatch h), hat, hb⟩

def Good (w : World) (e : Ending) (w' : World) : Prop := e = .returned (.bool true) ∧ Below w.heap.size w w'
/-- Behind region 23, behind region 24. -/
def ZCut (b : Bool) (w : World) (v : Value) (wx : World) : Prop := v = .bool b ∧ wx = w
/-- The gathered digits. -/
def DCut (w : World) (D : List UInt8) (v : Value) (wx : World) : Prop := OwnB wx w.heap.size v D ∧ Below w.heap.size w wx

theorem eq48T : (((48 : UInt8).toNat : Int) == 48) = true := rfl
theorem eq48F (b : UInt8) (h : b ≠ 48) : ((b.toNat : Int) == 48) = false := by
  rw [beq_eq_false_iff_ne]
  intro e
  apply h
  apply UInt8.toNat_inj.1
  show b.toNat = 48
  omega

theorem size_run5 (w : World) : (sizeOf (Tryd.prog.elem 22)).run Tryd.prog w = .ok 1 w := by
  obtain ⟨i0, hi, hz0, hz1, hz2⟩ := info_parts info5
  have e : Tryd.prog.elem 22 = 5 := by kernel_rfl
  rw [e]
  simp [sizeOf, typeInfo, hi, hz1]
/-- x[k:], k the length of the first part. -/
theorem slice_from (w : World) (a : Option Addr) (c : Nat) (x y : List UInt8) (h : BAt w a (x ++ y)) (hc : (x ++ y).length ≤ c) :
    ∃ a', BAt w a' y ∧ ∀ w', (Instr.slice 22 (.slice a (x ++ y).length c) (some (.int .i64 (x.length : Int))) none none).run Tryd.prog w' = .ok (.slice a' y.length (c - x.length)) w' := by
  have ht : Tryd.prog.underlying 22 = some (.slice (Tryd.prog.elem 22)) := by kernel_rfl
  have hl : (x ++ y).length = x.length + y.length := List.length_append
  refine ⟨if c = x.length then a else a.map (·.add (x.length * 1)), ?_, fun w' => ?_⟩
  · by_cases hy : y = []
    · subst hy; exact BAt.nil _ _
    · have hp : 0 < y.length := List.length_pos_iff.2 hy
      rw [if_neg (by omega)]
      obtain ⟨g, o, rfl, _⟩ := h 0 ((x ++ y)[0]) (by simp)
      have := BAt.drop h x.length
      rw [List.drop_left] at this
      simp only [Option.map_some, Nat.mul_one]
      have e : (⟨g, o, none⟩ : Addr).add x.length = ⟨g, o + x.length, none⟩ := by
        unfold Addr.add
        split
        · rename_i h0; simp [h0]
        · rfl
      rw [e]
      exact this
  · rw [run_slice_l w' 22 a _ c ht .i64 _ (by omega) (by omega)]
    rw [size_run5]
    simp only [Result.andThen_ok, sliced]
    congr 2
    omega
/-- x[:k]. -/
theorem slice_to (w : World) (a : Option Addr) (c : Nat) (x y : List UInt8) (h : BAt w a (x ++ y)) (hc : (x ++ y).length ≤ c) :
    ∃ a', BAt w a' x ∧ ∀ w', (Instr.slice 22 (.slice a (x ++ y).length c) none (some (.int .i64 (x.length : Int))) none).run Tryd.prog w' = .ok (.slice a' x.length c) w' := by
  have ht : Tryd.prog.underlying 22 = some (.slice (Tryd.prog.elem 22)) := by kernel_rfl
  have hl : (x ++ y).length = x.length + y.length := List.length_append
  refine ⟨a, h.pre, fun w' => ?_⟩
  rw [run_slice_h w' 22 a _ c ht .i64 _ (by omega) (by omega)]
  rw [size_run5]
  simp only [Result.andThen_ok, sliced]
  congr 2
  · cases a with
    | none => simp
    | some ad => simp [Addr.add]

/-- d[a:z]. -/
theorem slice_lh (w : World) (g o c : Nat) (D S : List UInt8) (a z : Nat) (h : BAt w (some ⟨g, o, none⟩) D) (haz : a ≤ z) (hz : z ≤ D.length) (hc : D.length ≤ c) (hS : (D.drop a).take (z - a) = S) :
    ∃ a', BAt w a' S ∧ ∀ w', (Instr.slice 22 (.slice (some ⟨g, o, none⟩) D.length c) (some (.int .i64 (a : Int))) (some (.int .i64 (z : Int))) none).run Tryd.prog w' = .ok (.slice a' S.length (c - a)) w' := by
  have ht : Tryd.prog.underlying 22 = some (.slice (Tryd.prog.elem 22)) := by kernel_rfl
  have hl : S.length = z - a := by rw [← hS, List.length_take, List.length_drop]; omega
  refine ⟨if c = a then some ⟨g, o, none⟩ else some ⟨g, o + a, none⟩, ?_, fun w' => ?_⟩
  · by_cases hca : c = a
    · have h0 : S = [] := List.eq_nil_of_length_eq_zero (by omega)
      rw [h0]
      exact BAt.nil _ _
    · rw [if_neg hca]
      have h1 := h.drop a
      intro k b hk
      rw [← hS, List.getElem?_take] at hk
      split at hk
      · exact h1 k b hk
      · cases hk
  · rw [run_slice_lh w' 22 _ _ c ht .i64 .i64 _ _ (by omega) (by omega) (by omega)]
    rw [size_run5]
    have e : (⟨g, o, none⟩ : Addr).add (a * 1) = ⟨g, o + a, none⟩ := by
      rw [Nat.mul_one]
      unfold Addr.add
      split
      · rename_i h0; simp [h0]
      · rfl
    simp only [Result.andThen_ok, sliced, Int.toNat_natCast, Option.map_some, e, hl]

/-- Behind the leading zeros; behind the trailing ones. -/
def LCut1 (D : List UInt8) (w : World) (v : Value) (wx : World) : Prop := ∃ a : Nat, v = .int .i64 (a : Int) ∧ a ≤ D.length ∧ D.drop a = lz D ∧ wx = w
def LCut2 (D : List UInt8) (a : Nat) (w : World) (v : Value) (wx : World) : Prop := ∃ z : Nat, v = .int .i64 (z : Int) ∧ a ≤ z ∧ z ≤ D.length ∧ (D.drop a).take (z - a) = rz (lz D) ∧ wx = w
def LRel1 (D : List UInt8) (v : Value) : Prop := ∃ k : Nat, k ≤ D.length ∧ v = .int .i64 (k : Int) ∧ lz (D.drop k) = lz D
def LRel2 (D : List UInt8) (a : Nat) (v : Value) : Prop := ∃ z : Nat, v = .int .i64 (z : Int) ∧ a ≤ z ∧ z ≤ D.length ∧ rz ((D.drop a).take (z - a)) = rz (lz D)
def NCut (n : Int) (w : World) (v : Value) (wx : World) : Prop := v = .int .i64 n ∧ wx = w
def WCut (H L : List UInt8) (w : World) (v21 v22 : Value) (wx : World) : Prop :=
  ∃ p q, ∃ c d : Nat, v21 = .slice p H.length c ∧ v22 = .slice q L.length d ∧ BAt w p H ∧ BAt w q L ∧ wx = w
theorem lz_cons48 (r : List UInt8) : lz (48 :: r) = lz r := rfl
theorem take_last {D : List UInt8} {a z : Nat} {b : UInt8} (h1 : a < z) (h2 : z ≤ D.length) (hb : D[z - 1]? = some b) : (D.drop a).take (z - a) = (D.drop a).take (z - 1 - a) ++ [b] := by
  have e : z - a = (z - 1 - a) + 1 := by omega
  rw [e, List.take_add_one, List.getElem?_drop]
  have e2 : a + (z - 1 - a) = z - 1 := by omega
  rw [e2, hb]
  rfl
theorem rz_one_ne (x : List UInt8) (b : UInt8) (h : b ≠ 48) : rz (x ++ [b]) = x ++ [b] := by
  have h1 : rz [b] = [b] := by unfold rz; simp [h]
  rw [rz_app, h1, if_neg (by simp)]
theorem rz_one_eq (x : List UInt8) : rz (x ++ [48]) = rz x := by
  have h1 : rz [48] = [] := rfl
  rw [rz_app, h1, if_pos rfl]

set_option maxRecDepth 100000 in
set_option maxHeartbeats 8000000 in
theorem lawSig (a0 a1 a2 : Option Addr) (n0 n1 n2 c0 c1 c2 : Nat) (wh fr ex : List UInt8) (w : World)
    (h0 : wh.length = n0) (h1 : fr.length = n1) (h2 : ex.length = n2) (e0 : a0 = none → n0 = 0) (e1 : a1 = none → n1 = 0 ∧ c1 = 0) (e2 : a2 = none → n2 = 0 ∧ c2 = 0)
    (g0 : BAt w a0 wh) (g1 : BAt w a1 fr) (g2 : BAt w a2 ex) :
    Calls Tryd.prog 3 #[.slice a0 n0 c0, .slice a1 n1 c1, .slice a2 n2 c2] w fun e w' => Good w e w' := by
  obtain ⟨i0, hi, hz0, hz1, hz2⟩ := info_parts info5
  go_enter Tryd.func3, Tryd.ntmps3
  go_wp2_with fail
  refine (zzBytes4_any a0 a1 a2 n0 n1 n2 c0 c1 c2 w).mono ?_
  rintro e w' ⟨⟨r, rfl⟩, hw⟩
  subst hw
  cases r with
  | false =>
    go_wp2
    go_ret
    exact ⟨rfl, Below.refl _ _⟩
  | true =>
    by_cases hbad : 65536 < n0 ∨ 65536 < n1 ∨ 65536 < n2
    · have E0 : Hid _ := e0
      have E1 : Hid _ := e1
      have E2 : Hid _ := e2
      clear e0 e1 e2
      go_wp2_with fail
      all_goals first | (go_ret; exact ⟨rfl, Below.refl _ _⟩) | (exfalso; omega)
    · have l0 : n0 ≤ 65536 := by omega
      have l1 : n1 ≤ 65536 := by omega
      have l2 : n2 ≤ 65536 := by omega
      clear hbad
      have hD0 := digits_any a0 c0 wh _ (by omega) g0
      have hD1 := digits_any a1 c1 fr _ (by omega) g1
      rw [h0] at hD0
      rw [h1] at hD1
      cases hwh : wh with
      | nil =>
        have z0 : ((n0 : Int) == 0) = true := by rw [← h0, hwh]; rfl
        clear hD0 hD1 hwh e0 e1 e2
        go_wp2
        go_ret
        exact ⟨rfl, Below.refl _ _⟩
      | cons c r =>
        have z0 : ((n0 : Int) == 0) = false := by rw [← h0, hwh, beq_eq_false_iff_ne]; simp; omega
        have HWH : Hid (wh = c :: r) := hwh
        have hn0 : 0 < n0 := by rw [← h0, hwh]; simp
        have hwh0 : wh[0]? = some c := by rw [hwh]; rfl
        clear hwh
        obtain ⟨g, o, rfl, hc0⟩ := g0 0 c hwh0
        have E1 : Hid _ := e1
        have E2 : Hid _ := e2
        clear e0 e1 e2
        cases ho0 : wh.all isDig with
        | false =>
          rw [ho0] at hD0
          go_wp2_with fail
          refine hD0.mono ?_
          rintro e w1 ⟨rfl, hw1⟩
          subst hw1
          go_wp2
          go_ret
          exact ⟨rfl, Below.refl _ _⟩
        | true =>
          rw [ho0] at hD0
          go_wp2_with fail
          refine hD0.mono ?_
          rintro e w1 ⟨rfl, hw1⟩
          subst hw1
          cases ho1 : fr.all isDig with
          | false =>
            rw [ho1] at hD1
            go_wp2_with fail
            refine hD1.mono ?_
            rintro e w1 ⟨rfl, hw1⟩
            subst hw1
            go_wp2
            go_ret
            exact ⟨rfl, Below.refl _ _⟩
          | true =>
            rw [ho1] at hD1
            go_wp2_with fail
            refine hD1.mono ?_
            rintro e w1 ⟨rfl, hw1⟩
            subst hw1
            clear hD0 hD1 ho0 ho1 z0 hwh0 hc0
            rename World => w
            subst h0 h1 h2
            go_upto_if 60 with (first
              | (at_make; refine wpList_make_full _ rfl _ _ 22 rfl w.heap.size 5 i0 (.int .u8 0) 1 Tryd.underlying22 hi hz0 hz1 .i64 .i64 _ _ wh.length rfl rfl rfl rfl (by rw [hz2]; omega) (by unfold maxLen; omega) (Nat.le_refl _) ?_; intro w1 hown hgrow; have hb1 : Below w.heap.size w w1 := (Below.refl _ _).grown hgrow (Nat.le_refl _) (fun k h => by cases h); obtain ⟨hblk, hlen⟩ := made_block hown; clear hown hgrow)
              | (refine wpList_copy_splice rfl (.tmp 55) (.tmp 56) 22 22 rfl 5 Tryd.underlying22 size5 _ _ _ _ _ _ rfl rfl w.heap.size 0 _ 5 hblk (byteVals wh) (by rw [byteVals_len]; exact (Nat.min_self _).symm) (fun _ => ⟨rfl, _, rfl, BAt.src (g0.later hb1)⟩) (by rw [byteVals_len, hlen]; omega) (bytes_one wh) w.heap.size w hb1 (Nat.le_refl _) ?_; intro w2 hblk2 hb2))
            obtain ⟨_, _, ew, -, -, -, q0, -⟩ := ccut_of l0 hlen hblk2.out hb2
            cases ew
            clear hblk hblk2 hlen hb1 g0
            have g1' := g1.later hb2
            have g2' := g2.later hb2
            clear g1 g2
            go_cut [1, 8] (fun v1 _ wx => CCut w2 fr v1 wx)
            case first => as_aux_lemma =>
              cases a1 with
              | none =>
                have hE := E1.out rfl
                have HREL : Hid (CCut w2 fr (.slice none fr.length c1) w2) := ⟨none, c1, rfl, by omega, by omega, fun _ => ⟨List.eq_nil_of_length_eq_zero hE.1, hE.2⟩, g1', Below.refl _ _⟩
                clear hE E1 E2
                go_wp2
                go_meet
                exact HREL.out
              | some ad =>
                go_wp2_with (first
                  | (at_make; refine wpList_make_full _ rfl _ _ 22 rfl w2.heap.size 5 i0 (.int .u8 0) 1 Tryd.underlying22 hi hz0 hz1 .i64 .i64 _ _ fr.length rfl rfl rfl rfl (by rw [hz2]; omega) (by unfold maxLen; omega) (Nat.le_refl _) ?_; intro w3 hown hgrow; have hb3 : Below w2.heap.size w2 w3 := (Below.refl _ _).grown hgrow (Nat.le_refl _) (fun k h => by cases h); obtain ⟨hblk, hlen⟩ := made_block hown; clear hown hgrow)
                  | (refine wpList_copy_splice rfl (.tmp 64) (.tmp 65) 22 22 rfl 5 Tryd.underlying22 size5 _ _ _ _ _ _ rfl rfl w2.heap.size 0 _ 5 hblk (byteVals fr) (by rw [byteVals_len]; exact (Nat.min_self _).symm) (fun _ => ⟨rfl, _, rfl, BAt.src (g1'.later hb3)⟩) (by rw [byteVals_len, hlen]; omega) (bytes_one fr) w2.heap.size w2 hb3 (Nat.le_refl _) ?_; intro w4 hblk2 hb4))
                have HREL : Hid _ := ccut_of l1 hlen hblk2.out hb4
                clear hblk hblk2 hlen hb3 hb4
                go_meet
                exact HREL.out
            case rest =>
              rename World => w3
              obtain ⟨b1, d1, rfl, kd1, md1, hn1, q1, hb3⟩ := hcut
              have q0' := q0.later hb3
              have g2'' := g2'.later hb3
              have hb23 := below_step hb2 hb3
              clear q0 g2' hb2 hb3 g1' E1
              go_upto_if 69 with fail
              go_cut [2, 9] (fun v2 _ wx => CCut w3 ex v2 wx)
              case first => as_aux_lemma =>
                cases a2 with
                | none =>
                  have hE := E2.out rfl
                  have HREL : Hid (CCut w3 ex (.slice none ex.length c2) w3) := ⟨none, c2, rfl, by omega, by omega, fun _ => ⟨List.eq_nil_of_length_eq_zero hE.1, hE.2⟩, g2'', Below.refl _ _⟩
                  clear hE E2
                  go_wp2
                  go_meet
                  exact HREL.out
                | some ad =>
                  go_wp2_with (first
                    | (at_make; refine wpList_make_full _ rfl _ _ 22 rfl w3.heap.size 5 i0 (.int .u8 0) 1 Tryd.underlying22 hi hz0 hz1 .i64 .i64 _ _ ex.length rfl rfl rfl rfl (by rw [hz2]; omega) (by unfold maxLen; omega) (Nat.le_refl _) ?_; intro w4 hown hgrow; have hb4 : Below w3.heap.size w3 w4 := (Below.refl _ _).grown hgrow (Nat.le_refl _) (fun k h => by cases h); obtain ⟨hblk, hlen⟩ := made_block hown; clear hown hgrow)
                    | (refine wpList_copy_splice rfl (.tmp 73) (.tmp 74) 22 22 rfl 5 Tryd.underlying22 size5 _ _ _ _ _ _ rfl rfl w3.heap.size 0 _ 5 hblk (byteVals ex) (by rw [byteVals_len]; exact (Nat.min_self _).symm) (fun _ => ⟨rfl, _, rfl, BAt.src (g2''.later hb4)⟩) (by rw [byteVals_len, hlen]; omega) (bytes_one ex) w3.heap.size w3 hb4 (Nat.le_refl _) ?_; intro w5 hblk2 hb5))
                  have HREL : Hid _ := ccut_of l2 hlen hblk2.out hb5
                  clear hblk hblk2 hlen hb4 hb5
                  go_meet
                  exact HREL.out
              case rest =>
                rename World => w4
                obtain ⟨b2, d2, rfl, -, -, -, q2, hb4⟩ := hcut
                have q0c := q0'.later hb4
                have q1c := q1.later hb4
                have hbw := below_step hb23 hb4
                clear q0' q1 hb23 hb4 g2'' E2
                have hc0 : w4.cell? ⟨w.heap.size, 0, none⟩ = some (.int .u8 (c.toNat : Int)) := by
                  obtain ⟨g', o', eg, h⟩ := q0c 0 c (by rw [HWH.out]; rfl)
                  cases eg
                  exact h
                have p0 : (0 : Int) < (wh.length : Int) := by omega
                go_upto_region 23 with fail
                go_cut [10] (fun v10 wx => ZCut (decide (wh = [48])) w4 v10 wx)
                case first => as_aux_lemma =>
                  by_cases hl1 : wh.length = 1
                  · have z1 : ((wh.length : Int) == 1) = true := by rw [beq_iff_eq]; omega
                    have hr : r = [] := by
                      have := HWH.out
                      rw [this] at hl1
                      simpa using hl1
                    by_cases h48 : c = 48
                    · have b48 : ((c.toNat : Int) == 48) = true := by rw [h48]; rfl
                      have HREL : Hid (ZCut (decide (wh = [48])) w4 (.bool true) w4) := ⟨by rw [HWH.out, hr, h48]; rfl, rfl⟩
                      clear hl1 hr h48 hn1
                      go_wp2
                      go_meet
                      exact HREL.out
                    · have b48 := eq48F c h48
                      have HREL : Hid (ZCut (decide (wh = [48])) w4 (.bool false) w4) := by
                        refine ⟨?_, rfl⟩
                        have : ¬ wh = [48] := fun h => by rw [HWH.out] at h; cases h; exact h48 rfl
                        simp [this]
                      clear hl1 hr h48 hn1
                      go_wp2
                      go_meet
                      exact HREL.out
                  · have z1 : ((wh.length : Int) == 1) = false := by rw [beq_eq_false_iff_ne]; omega
                    have HREL : Hid (ZCut (decide (wh = [48])) w4 (.bool false) w4) := by
                      refine ⟨?_, rfl⟩
                      have : ¬ wh = [48] := fun h => hl1 (by rw [h]; rfl)
                      simp [this]
                    clear hl1 hn1
                    go_wp2
                    go_meet
                    exact HREL.out
                case rest =>
                  obtain ⟨rfl, hwc⟩ := hcut
                  subst hwc
                  rename World => w4
                  obtain ⟨zw, hzw⟩ : ∃ zw, zw = decide (wh = [48]) := ⟨_, rfl⟩
                  rw [← hzw]
                  have HZW : Hid (zw = decide (wh = [48])) := hzw
                  clear hzw
                  by_cases hB : c = 48 ∧ ¬ wh = [48]
                  · have b48 : ((c.toNat : Int) == 48) = true := by rw [hB.1]; rfl
                    have hzf : zw = false := by rw [HZW.out]; simp [hB.2]
                    subst hzf
                    have HB : Hid _ := hbw
                    clear hB hn1 hbw q0c q1c q2
                    go_wp2
                    go_ret
                    exact ⟨rfl, HB.out⟩
                  · go_upto_region 24 with fail
                    go_cut [93] (fun v93 wx => ZCut false w4 v93 wx)
                    case first => as_aux_lemma =>
                      have HREL : Hid (ZCut false w4 (.bool false) w4) := ⟨rfl, rfl⟩
                      by_cases h48 : c = 48
                      · have b48 : ((c.toNat : Int) == 48) = true := by rw [h48]; rfl
                        have hzt : zw = true := by
                          rw [HZW.out]
                          have : wh = [48] := by
                            cases Classical.em (wh = [48]) with
                            | inl h => exact h
                            | inr h => exact absurd ⟨h48, h⟩ hB
                          simp [this]
                        subst hzt
                        clear hB hn1 h48 q0c q1c q2
                        go_wp2
                        go_meet
                        exact HREL.out
                      · have b48 := eq48F c h48
                        clear hB hn1 h48 q0c q1c q2
                        go_wp2
                        go_meet
                        exact HREL.out
                    case rest =>
                      obtain ⟨rfl, hwc⟩ := hcut
                      subst hwc
                      rename World => w4
                      have HM : Hid (sigHi wh fr = wantHi wh fr ∧ sigLo wh fr = wantLo wh fr ∧ sigN wh fr = wantN wh fr) := by
                        refine model wh fr ?_
                        by_cases h48 : wh = [48]
                        · exact .inl h48
                        · exact .inr ⟨c, r, HWH.out, fun h => hB ⟨h, h48⟩⟩
                      clear hB hc0
                      have hX := exp_any b2 d2 ex w4 l2 q2
                      go_wp2_with fail
                      refine hX.mono ?_
                      clear hX
                      rintro e w5 ⟨hw5, hres⟩
                      subst hw5
                      rename World => w4
                      rcases hres with rfl | ⟨v, rfl, hv⟩
                      · have HB : Hid _ := hbw
                        clear hbw hn1
                        go_wp2
                        go_ret
                        exact ⟨rfl, HB.out⟩
                      · have hvb : -1073741824 ≤ v ∧ v ≤ 1073741824 := ⟨hv.1, hv.2.1⟩
                        have hZ := zzsig_any (some ⟨w.heap.size, 0, none⟩) b1 b2 wh.length d1 d2 wh fr ex v w4 l0 l1 l2 (Nat.le_refl _) kd1 (by omega) md1 q0c q1c q2 hv
                        clear hv
                        have HN1 : Hid _ := hn1
                        clear hn1
                        go_wp2_with fail
                        refine hZ.mono ?_
                        clear hZ
                        rintro e w5 ⟨ah, ch, al, cl, rfl, qh, ql, hb5⟩
                        have q0d := q0c.later hb5
                        have q1d := q1c.later hb5
                        have hbw5 := below_step hbw hb5
                        clear q0c q1c q2 hbw hb5
                        have hnb := sigN_bound wh fr l0 l1
                        rw [HM.out.1] at qh
                        rw [HM.out.2.1] at ql
                        have ehi : sigHi wh fr = wantHi wh fr := HM.out.1
                        have elo : sigLo wh fr = wantLo wh fr := HM.out.2.1
                        have enn : sigN wh fr = wantN wh fr := HM.out.2.2
                        rw [enn] at hnb
                        rw [ehi, elo, enn]
                        clear ehi elo enn HM
                        have e30 : IntKind.i64.wrap ((wh.length : Int) + (fr.length : Int)) = ((wh.length + fr.length : Nat) : Int) := by rw [IntWalk.i64_in _ ⟨by omega, by omega⟩]; omega
                        go_upto_region 32 with (first
                          | (at_make; refine wpList_make_own _ rfl _ _ 22 rfl w5.heap.size 5 i0 (.int .u8 0) 1 Tryd.underlying22 hi hz0 hz1 .i64 .i64 _ (wh.length + fr.length) rfl rfl rfl (by rw [hz2]; omega) (by unfold maxLen; omega) (Nat.le_refl _) ?_; intro w6 hown hgrow; have hb6 : Below w5.heap.size w5 w6 := (Below.refl _ _).grown hgrow (Nat.le_refl _) (fun k h => by cases h); clear hgrow; have hsz6 := hb6.size)
                          | (at_builtin; refine wpList_append_own _ rfl (.tmp 115) (.tmp 116) 22 rfl w5.heap.size 5 i0 (.int .u8 0) 1 1 Tryd.underlying22 hi hz0 hz1 hz2 rfl (by decide) _ _ _ rfl hown ⟨w.heap.size, 0, none⟩ wh.length wh.length (byteVals wh) rfl (by rw [byteVals_len]; omega) (BAt.src (q0d.later hb6)) (bytes_one wh) (by unfold maxLen; omega) (by omega) hsz6 ?_; intro v7 w7 ho7 hg7 hn7))
                        have hb7 : Below w5.heap.size w5 w7 := hb6.grown hg7 hb6.size (fun g hg => (hown.lt g hg).1)
                        have ho7' : OwnB w7 w5.heap.size v7 wh := by
                          show w7.ownsRow _ _ _ _ _ _
                          simpa using ho7
                        have q1e := q1d.later hb7
                        have hsz7 := hb7.size
                        clear hown hg7 hn7 ho7 hb6 hsz6 e30 q0d
                        go_cut [16] (fun v16 wx => DCut w5 (wh ++ fr) v16 wx)
                        case first => as_aux_lemma =>
                          cases b1 with
                          | none =>
                            obtain ⟨hf0, hd0⟩ := HN1.out rfl
                            have HREL : Hid (DCut w5 (wh ++ fr) v7 w7) := ⟨by rw [hf0, List.append_nil]; exact ho7', hb7⟩
                            clear HN1 qh ql
                            subst hf0 hd0
                            go_wp2_with (at_builtin; refine wpList_append_own_none rfl (.tmp 118) (.tmp 119) 22 rfl w5.heap.size 5 i0 1 Tryd.underlying22 hi _ _ _ rfl ho7' rfl ?_)
                            go_meet
                            exact HREL.out
                          | some ad1 =>
                            clear HN1 qh ql
                            go_wp2_with (at_builtin; refine wpList_append_own _ rfl (.tmp 118) (.tmp 119) 22 rfl w5.heap.size 5 i0 (.int .u8 0) 1 1 Tryd.underlying22 hi hz0 hz1 hz2 rfl (by decide) _ _ _ rfl ho7' ad1 fr.length d1 (byteVals fr) rfl (by rw [byteVals_len]; omega) (BAt.src q1e) (bytes_one fr) (by unfold maxLen; omega) (by omega) hsz7 ?_; intro v8 w8 ho8 hg8 hn8)
                            have HREL : Hid (DCut w5 (wh ++ fr) v8 w8) := ⟨by show w8.ownsRow _ _ _ _ _ _; simpa [byteVals] using ho8, hb7.grown hg8 hb7.size (fun g hg => (ho7'.lt g hg).1)⟩
                            clear ho8 hg8 hn8
                            go_meet
                            exact HREL.out
                        case rest =>
                          rename World => w8
                          obtain ⟨ho8, hb8⟩ := hcut
                          obtain ⟨ad, cd, rfl, hcd, hcd2, qd⟩ := BAt.of_owns ho8
                          have qh8 := qh.later hb8
                          have ql8 := ql.later hb8
                          have HB8 : Hid _ := below_step hbw5 hb8
                          have hDl : (wh ++ fr).length ≤ 131072 := by rw [List.length_append]; omega
                          have hD0 : (wh ++ fr)[0]? = some c := by rw [HWH.out]; rfl
                          obtain ⟨gd, od, rfl, -⟩ := qd 0 c hD0
                          clear ho8 hb8 hb7 ho7' hsz7 q1e q1d qh ql hbw5 HN1 hD0
                          have HS : Hid (sg wh fr = rz (lz (wh ++ fr))) := rfl
                          have HZ : Hid (leadZ wh fr = (wh ++ fr).length - (lz (wh ++ fr)).length) := rfl
                          generalize wh ++ fr = D at *
                          have hd0 : (0 : Int) ≤ (D.length : Int) := by omega
                          go_upto_block 0 with fail
                          go_cut [17] (fun v17 wx => LCut1 D w8 v17 wx)
                          case first => as_aux_lemma =>
                            clear qh8 ql8 HB8 HS HZ hnb hvb
                            go_wp2_with fail
                            go_loop [17] (fun i => LRel1 D i) (fun i => D.length - (intOf i).toNat)
                            case atStart => exact ⟨0, Nat.zero_le _, rfl, rfl⟩
                            case round =>
                              obtain ⟨k, hk, rfl, hlz⟩ := hrel
                              by_cases hlt : k < D.length
                              · have hDk : D[k]? = some (D[k]) := by simp [hlt]
                                have hdrop : D.drop k = D[k] :: D.drop (k + 1) := List.drop_eq_getElem_cons hlt
                                generalize D[k] = b at *
                                obtain ⟨g', o', eg, hcell⟩ := qd k b hDk
                                cases eg
                                have i1 : (k : Int) < (D.length : Int) := by omega
                                have i3 : (0 : Int) ≤ (k : Int) := by omega
                                by_cases h48 : b = 48
                                · subst h48
                                  have HN : Hid (LRel1 D (.int .i64 ((k + 1 : Nat) : Int))) := ⟨k + 1, by omega, rfl, by rw [← hlz, hdrop, lz_cons48]⟩
                                  have b48 := eq48T
                                  clear hdrop hlz hDk
                                  go_wp2
                                  go_round
                                  case rel => exact HN.out
                                  case measure => simp [intOf]; omega
                                · have b48 := eq48F b h48
                                  have HREL : Hid (LCut1 D w8 (.int .i64 (k : Int)) w8) := ⟨k, rfl, hk, by rw [← hlz, hdrop, lz_ne b _ h48], rfl⟩
                                  clear hdrop hlz hDk h48
                                  go_wp2
                                  go_meet
                                  exact HREL.out
                              · have hkn : k = D.length := by omega
                                have HREL : Hid (LCut1 D w8 (.int .i64 (k : Int)) w8) := ⟨k, rfl, hk, by rw [← hlz, hkn, List.drop_length]; rfl, rfl⟩
                                have dk : decide (k < D.length) = false := by simp; omega
                                clear hkn hlz
                                go_wp2
                                go_meet
                                exact HREL.out
                          case rest =>
                            obtain ⟨a, rfl, haD, hdrop, hwc⟩ := hcut
                            subst hwc
                            rename World => w8
                            have HDR : Hid (D.drop a = lz D) := hdrop
                            clear hdrop
                            go_upto_block 2 with fail
                            go_cut [18] (fun v18 wx => LCut2 D a w8 v18 wx)
                            case first => as_aux_lemma =>
                              clear qh8 ql8 HB8 HS HZ hnb hvb
                              go_wp2_with fail
                              go_loop [18] (fun i => LRel2 D a i) (fun i => (intOf i).toNat)
                              case atStart => exact ⟨D.length, rfl, haD, Nat.le_refl _, by rw [List.take_of_length_le (by simp), HDR.out]⟩
                              case round =>
                                obtain ⟨z, rfl, haz, hzD, hrz⟩ := hrel
                                by_cases hlt : a < z
                                · have hDk : D[z - 1]? = some (D[z - 1]'(by omega)) := by simp
                                  generalize D[z - 1]'(by omega) = b at *
                                  have htl := take_last hlt hzD hDk
                                  rw [htl] at hrz
                                  obtain ⟨g', o', eg, hcell⟩ := qd (z - 1) b hDk
                                  cases eg
                                  have e1 : IntKind.i64.wrap ((z : Int) - 1) = ((z - 1 : Nat) : Int) := by rw [IntWalk.i64_in _ ⟨by omega, by omega⟩]; omega
                                  have i1 : ((z - 1 : Nat) : Int) < (D.length : Int) := by omega
                                  have i3 : (0 : Int) ≤ ((z - 1 : Nat) : Int) := by omega
                                  have dz : decide (a < z) = true := by simp [hlt]
                                  by_cases h48 : b = 48
                                  · subst h48
                                    have HN : Hid (LRel2 D a (.int .i64 ((z - 1 : Nat) : Int))) := ⟨z - 1, rfl, by omega, by omega, by rw [← hrz, rz_one_eq]⟩
                                    have b48 := eq48T
                                    clear htl hrz hDk
                                    generalize hq : z - 1 = q at *
                                    go_wp2
                                    go_round
                                    case rel => exact HN.out
                                    case measure => simp [intOf]; omega
                                  · have b48 := eq48F b h48
                                    have HREL : Hid (LCut2 D a w8 (.int .i64 (z : Int)) w8) := ⟨z, rfl, haz, hzD, by rw [htl, ← hrz, rz_one_ne _ _ h48], rfl⟩
                                    clear htl hrz hDk h48
                                    generalize hq : z - 1 = q at *
                                    go_wp2
                                    go_meet
                                    exact HREL.out
                                · have hza : z = a := by omega
                                  have HREL : Hid (LCut2 D a w8 (.int .i64 (z : Int)) w8) := by
                                    refine ⟨z, rfl, haz, hzD, ?_, rfl⟩
                                    rw [← hrz, hza, Nat.sub_self]
                                    rfl
                                  have dz : decide (a < z) = false := by simp; omega
                                  clear hza hrz
                                  go_wp2
                                  go_meet
                                  exact HREL.out
                            case rest =>
                              obtain ⟨z, rfl, haz, hzD, hsig, hwc⟩ := hcut
                              subst hwc
                              rename World => w8
                              obtain ⟨ps, qs, hsl⟩ := slice_lh w8 gd od cd D (rz (lz D)) a z qd haz hzD hcd hsig
                              have hSl : (rz (lz D)).length = z - a := by rw [← hsig, List.length_take, List.length_drop]; omega
                              have hSc : (rz (lz D)).length ≤ cd - a := by omega
                              have hSb : (rz (lz D)).length ≤ 131072 := by omega
                              have HLA : Hid (leadZ wh fr = a) := by
                                show _ = _
                                rw [HZ.out, ← HDR.out, List.length_drop]
                                omega
                              have HSl : Hid _ := hSl
                              clear hsig HZ HDR hSl
                              have hS := HS.out
                              generalize rz (lz D) = S at *
                              have HS2 : Hid (sg wh fr = S) := hS
                              clear hS HS
                              go_upto_if 156 with fail
                              go_cut [20] (fun v20 wx => NCut (wantN wh fr + v) w8 v20 wx)
                              case first => as_aux_lemma =>
                                by_cases hS0 : S = []
                                · have z1 : ¬ 0 < S.length := by rw [hS0]; simp
                                  have HREL : Hid (NCut (wantN wh fr + v) w8 (.int .i64 v) w8) := by
                                    refine ⟨?_, rfl⟩
                                    have : wantN wh fr = 0 := by unfold wantN; rw [if_pos (by rw [HS2.out, hS0])]
                                    rw [this, Int.zero_add]
                                  clear hS0 hsl qh8 ql8
                                  go_wp2
                                  go_meet
                                  exact HREL.out
                                · have z1 : 0 < S.length := List.length_pos_iff.2 hS0
                                  have hwn : wantN wh fr = (wh.length : Int) - (a : Int) := by unfold wantN; rw [if_neg (by rw [HS2.out]; exact hS0), HLA.out]
                                  have HREL : Hid (NCut (wantN wh fr + v) w8 (.int .i64 ((wh.length : Int) - (a : Int) + v)) w8) := ⟨by rw [hwn], rfl⟩
                                  have e160 : IntKind.i64.wrap ((wh.length : Int) - (a : Int)) = (wh.length : Int) - (a : Int) := IntWalk.i64_in _ ⟨by omega, by omega⟩
                                  have e162 : IntKind.i64.wrap ((wh.length : Int) - (a : Int) + v) = (wh.length : Int) - (a : Int) + v := IntWalk.i64_in _ ⟨by omega, by omega⟩
                                  clear hS0 hsl qh8 ql8 hwn hnb
                                  go_wp2
                                  go_meet
                                  exact HREL.out
                              case rest =>
                                obtain ⟨rfl, hwc⟩ := hcut
                                subst hwc
                                rename World => w8
                                clear hsl
                                go_upto_region 45 with fail
                                go_cut [172] (fun v172 wx => ZCut (decide (¬ wh = [48] ∧ wh.length < S.length)) w8 v172 wx)
                                case first => as_aux_lemma =>
                                  cases zw with
                                  | true =>
                                    have hw48 : wh = [48] := by simpa using HZW.out.symm
                                    have HREL : Hid (ZCut (decide (¬ wh = [48] ∧ wh.length < S.length)) w8 (.bool false) w8) := by
                                      refine ⟨?_, rfl⟩
                                      have : ¬ (¬ wh = [48] ∧ wh.length < S.length) := fun h => h.1 hw48
                                      rw [decide_eq_false this]
                                    clear hw48 qh8 ql8
                                    go_wp2
                                    go_meet
                                    exact HREL.out
                                  | false =>
                                    have hw48 : ¬ wh = [48] := by simpa using HZW.out.symm
                                    by_cases hlt : wh.length < S.length
                                    · have dl : decide (wh.length < S.length) = true := by simp [hlt]
                                      have HREL : Hid (ZCut (decide (¬ wh = [48] ∧ wh.length < S.length)) w8 (.bool true) w8) := ⟨by rw [decide_eq_true (p := ¬ wh = [48] ∧ wh.length < S.length) ⟨hw48, hlt⟩], rfl⟩
                                      clear hw48 qh8 ql8 hlt
                                      go_wp2
                                      go_meet
                                      exact HREL.out
                                    · have dl : decide (wh.length < S.length) = false := by simp; omega
                                      have HREL : Hid (ZCut (decide (¬ wh = [48] ∧ wh.length < S.length)) w8 (.bool false) w8) := ⟨by rw [decide_eq_false (p := ¬ wh = [48] ∧ wh.length < S.length) (fun h => hlt h.2)], rfl⟩
                                      clear hw48 qh8 ql8 hlt
                                      go_wp2
                                      go_meet
                                      exact HREL.out
                                case rest =>
                                  obtain ⟨rfl, hwc⟩ := hcut
                                  subst hwc
                                  rename World => w8
                                  obtain ⟨bb, hbb⟩ : ∃ bb, bb = decide (¬ wh = [48] ∧ wh.length < S.length) := ⟨_, rfl⟩
                                  rw [← hbb]
                                  have HBB : Hid _ := hbb
                                  clear hbb
                                  go_upto_if 172 with fail
                                  go_cut [21, 22] (fun v21 v22 wx => WCut (wantHi wh fr) (wantLo wh fr) w8 v21 v22 wx)
                                  case first => as_aux_lemma =>
                                    cases bb with
                                    | false =>
                                      have hno : ¬ (¬ wh = [48] ∧ wh.length < S.length) := by simpa using HBB.out.symm
                                      have HREL : Hid (WCut (wantHi wh fr) (wantLo wh fr) w8 (.slice ps S.length (cd - a)) (.slice none 0 0) w8) := by
                                        have e1 : wantHi wh fr = S := by unfold wantHi; rw [HS2.out, if_neg hno]
                                        have e2 : wantLo wh fr = [] := by unfold wantLo; rw [HS2.out, if_neg hno]
                                        rw [e1, e2]
                                        exact ⟨ps, none, cd - a, 0, rfl, rfl, qs, BAt.nil _ _, rfl⟩
                                      clear hno qh8 ql8 HBB
                                      go_wp2
                                      go_meet
                                      exact HREL.out
                                    | true =>
                                      have hyes : ¬ wh = [48] ∧ wh.length < S.length := by simpa using HBB.out.symm
                                      have e1 : wantHi wh fr = S.take wh.length := by unfold wantHi; rw [HS2.out, if_pos hyes]
                                      have e2 : wantLo wh fr = S.drop wh.length := by unfold wantLo; rw [HS2.out, if_pos hyes]
                                      have hts : S.take wh.length ++ S.drop wh.length = S := List.take_append_drop _ _
                                      have htl : (S.take wh.length).length = wh.length := by rw [List.length_take]; omega
                                      obtain ⟨p1, r1, k1⟩ := slice_to w8 ps (cd - a) (S.take wh.length) (S.drop wh.length) (by rw [hts]; exact qs) (by rw [hts]; exact hSc)
                                      obtain ⟨p2, r2, k2⟩ := slice_from w8 ps (cd - a) (S.take wh.length) (S.drop wh.length) (by rw [hts]; exact qs) (by rw [hts]; exact hSc)
                                      rw [hts, htl] at k1 k2
                                      have HREL : Hid (WCut (wantHi wh fr) (wantLo wh fr) w8 (.slice p1 wh.length (cd - a)) (.slice p2 (S.drop wh.length).length (cd - a - wh.length)) w8) := by
                                        rw [e1, e2]
                                        exact ⟨p1, p2, _, _, by rw [htl], rfl, r1, r2, rfl⟩
                                      clear hyes e1 e2 hts htl r1 r2 qh8 ql8 HBB
                                      generalize (S.drop wh.length).length = sl at *
                                      go_wp2
                                      go_meet
                                      exact HREL.out
                                  case rest =>
                                    obtain ⟨p21, p22, c21, c22, rfl, rfl, r21, r22, hwc⟩ := hcut
                                    subst hwc
                                    rename World => w8
                                    have hHl : (wantHi wh fr).length ≤ 131072 := by
                                      unfold wantHi
                                      rw [HS2.out]
                                      split
                                      · rw [List.length_take]; omega
                                      · omega
                                    have hLl : (wantLo wh fr).length ≤ 131072 := by
                                      unfold wantLo
                                      rw [HS2.out]
                                      split
                                      · rw [List.length_drop]; omega
                                      · simp
                                    generalize wantHi wh fr = H at *
                                    generalize wantLo wh fr = L at *
                                    generalize wantN wh fr + v = nn at *
                                    have hS1 := same_any ah p21 ch c21 H H w8 (by omega) (by omega) qh8 r21
                                    rw [decide_eq_true rfl] at hS1
                                    go_wp2_with fail
                                    refine hS1.mono ?_
                                    clear hS1
                                    rintro e w9 ⟨rfl, nd, hw9⟩
                                    have hb9 : Below w8.heap.size w8 w9 := by rw [hw9]; exact below_drewN (Below.refl _ _) nd
                                    have hS2 := same_any al p22 cl c22 L L w9 (by omega) (by omega) (ql8.later hb9) (r22.later hb9)
                                    rw [decide_eq_true rfl] at hS2
                                    have HB9 : Hid _ := below_step HB8.out hb9
                                    clear hw9 hb9 qh8 ql8 r21 r22 qs qd
                                    go_wp2_with fail
                                    refine hS2.mono ?_
                                    clear hS2
                                    rintro e w10 ⟨rfl, nd2, rfl⟩
                                    have nnn : (nn == nn) = true := by simp
                                    go_wp2
                                    go_ret
                                    exact ⟨rfl, below_drewN HB9.out nd2⟩

end Go.Proofs.Qxb6601221aDoor
