/-
  Seat b6601132aD: the walk of appendGrouped. By an AI agent (seat 043).
-/
import Derived.Test.Qxb6601132aDoorW1
import Derived.Maps.AppendAt
import Derived.Lib.AppendStr
set_option linter.unusedSimpArgs false
set_option linter.unusedVariables false
namespace Go.Proofs.Qxb6601132aDoor
open Go.RowKit

abbrev Str (l : List UInt8) : ByteArray := ⟨l.toArray⟩
theorem strCells_str (l : List UInt8) : Lib.strCells (Str l) = byteVals l := by simp [Lib.strCells, byteVals]
theorem str_size (l : List UInt8) : (Str l).size = l.length := rfl

/-- All old blocks but r are as they were; the slice lies in r, or in a new block. -/
def Kp (w : World) (r : Option Nat) (wr : World) (v : Value) : Prop := w.grownBy wr r ∧ (v.ownBlock = r ∨ ∃ k, v.ownBlock = some k ∧ w.heap.size ≤ k)
theorem grown_of_below {w w' : World} (r : Option Nat) (h : Below w.heap.size w w') : w.grownBy w' r := ⟨h.os, h.tape, h.output, h.size, fun k hk _ => h.block k hk⟩
theorem Kp.next {w : World} {r : Option Nat} {wr w2 : World} {v v2 : Value} (h : Kp w r wr v) (hg : wr.grownBy w2 v.ownBlock) (ha : v2.ownBlock = v.ownBlock ∨ v2.ownBlock = some wr.heap.size) : Kp w r w2 v2 := by
  refine ⟨⟨hg.os.trans h.1.os, hg.tape.trans h.1.tape, hg.output.trans h.1.output, Nat.le_trans h.1.size hg.size, fun k hk hne => ?_⟩, ?_⟩
  · refine (hg.block k (Nat.lt_of_lt_of_le hk h.1.size) ?_).trans (h.1.block k hk hne)
    rcases h.2 with e | ⟨q, e, hq⟩
    · rw [e]; exact hne
    · rw [e]; intro e2; cases e2; omega
  · rcases ha with e | e
    · rw [e]; exact h.2
    · exact .inr ⟨_, e, h.1.size⟩
theorem Kp.last {w : World} {r : Option Nat} {wr w2 : World} {v : Value} (h : Kp w r wr v) (hg : wr.grownBy w2 v.ownBlock) : w.grownBy w2 r := (h.next hg (.inl rfl)).1
theorem Kp.below {w : World} {r : Option Nat} {wr w2 : World} {v : Value} (h : Kp w r wr v) (hb : Below wr.heap.size wr w2) : Kp w r w2 v :=
  ⟨h.1.trans (grown_of_below r hb), h.2⟩
theorem Kp.alloc {w : World} {r : Option Nat} {wr : World} {v : Value} (h : Kp w r wr v) (o : Obj) : Kp w r (wr.alloc o) v := h.below ((Below.refl _ _).alloc (Nat.le_refl _) o)

/-- What appendGrouped hands back. -/
def AppR (w : World) (B : Nat) (v : Value) (bs l : List UInt8) (e : Ending) (w' : World) : Prop :=
  ∃ v', e = .returned v' ∧ OwnB w' B v' (bs ++ grp l) ∧ w.grownBy w' v.ownBlock ∧ (v' = .slice none 0 0 ↔ v = .slice none 0 0 ∧ l = [])

/-- What the three calls of the library say. -/
structure Libs (w0 : World) : Prop where
  cp : ∀ (l : List UInt8) (w : World), Calls Tryd.prog 17 #[.string (Str l), .string ⟨#[45]⟩] w fun e w' => e = .returned (.tuple #[.string (Str (body l)), .bool (ng l)]) ∧ Below w.heap.size w w'
  ct : ∀ (l : List UInt8) (w : World), Below w0.heap.size w0 w → l.length ≤ 4194304 → Calls Tryd.prog 18 #[.string (Str l), .string ⟨#[46]⟩] w fun e w' => e = .returned (.tuple #[.string (Str (whole l)), .string (Str (frac l)), .bool (hasPt l)]) ∧ Below w.heap.size w w'
  tr : ∀ (l : List UInt8) (w : World), l.length ≤ 4194304 → Calls Tryd.prog 19 #[.string (Str l), .string ⟨#[48, 49, 50, 51, 52, 53, 54, 55, 56, 57]⟩] w fun e w' => e = .returned (.string (Str (Lib.trimS l [48, 49, 50, 51, 52, 53, 54, 55, 56, 57]))) ∧ Below w.heap.size w w'

theorem body_len (l : List UInt8) : (body l).length ≤ l.length := by
  unfold body
  split
  · simp
  · exact Nat.le_refl _
theorem whole_len (d : List UInt8) : (whole d).length ≤ d.length := by
  have := congrArg List.length (whole_rest d)
  rw [List.length_append] at this
  omega
theorem frac_len (d : List UInt8) : (frac d).length ≤ d.length := by
  have := congrArg List.length (whole_rest d)
  rw [List.length_append] at this
  unfold frac
  simp
  omega
theorem ins_len (l : List UInt8) : ∀ f, (ins f l).length ≤ 2 * l.length := by
  induction l with
  | nil => intro f; simp [ins]
  | cons c r ih =>
    intro f
    have := ih false
    simp only [ins]
    rw [List.length_append, List.length_cons, List.length_cons]
    split
    · simp; omega
    · simp; omega

theorem one_u8 (z : Int) : ∀ u ∈ [Value.int .u8 z], u.oneCell' = true := by
  intro u hu
  simp at hu
  subst hu
  rfl
/-- Behind the sign. -/
def GCut (w : World) (B : Nat) (r : Option Nat) (pre : List UInt8) (v : Value) (wr : World) : Prop := OwnB wr B v pre ∧ Kp w r wr v ∧ B ≤ wr.heap.size
theorem owns_ne {w : World} {B : Nat} {v : Value} {bs : List UInt8} (h : OwnB w B v bs) (hp : bs ≠ []) : v ≠ .slice none 0 0 := by
  rintro rfl
  rcases h.2 with ⟨_, h0⟩ | ⟨g, cap, cur, e, _⟩
  · exact hp (List.eq_nil_of_length_eq_zero h0)
  · cases e
/-- The loop over the digits. -/
def GRel (w : World) (B : Nat) (r : Option Nat) (pre W : List UInt8) (v i : Value) (wr : World) : Prop :=
  ∃ (k : Nat) (done : List UInt8), k ≤ W.length ∧ i = .int .i64 (k : Int) ∧ done ++ ins (decide (k = 0)) (W.drop k) = pre ++ ins true W ∧ OwnB wr B v done ∧ Kp w r wr v ∧ B ≤ wr.heap.size

theorem grp_of (l : List UInt8) : grp l = if whole (body l) ≠ [] ∧ (whole (body l)).all isDig = true then (if ng l then [45] else []) ++ ins true (whole (body l)) ++ (if hasPt (body l) then 46 :: frac (body l) else []) else l := by
  unfold grp isNum grpN tailP
  simp only [Bool.and_eq_true, decide_eq_true_eq]
set_option maxRecDepth 100000 in
set_option maxHeartbeats 4000000 in
theorem app_any (v : Value) (B : Nat) (bs l : List UInt8) (w : World) (hB : B ≤ w.heap.size) (ho : OwnB w B v bs) (hbl : bs.length ≤ 4194304) (hll : l.length ≤ 4194304) (L : Libs w) :
    Calls Tryd.prog 14 #[v, .string (Str l)] w fun e w' => AppR w B v bs l e w' := by
  obtain ⟨i0, hi, hz0, hz1, hz2⟩ := info_parts info5
  have b1 := body_len l
  have b2 := whole_len (body l)
  have b3 := frac_len (body l)
  have hcp := L.cp l w
  have hct := fun w1 h1 => L.ct (body l) w1 h1 (by omega)
  have htr := fun w1 => L.tr (whole (body l)) w1 (by omega)
  have HG : Hid _ := grp_of l
  have hta := trim_all (whole (body l))
  have HN : Hid (l = [] → whole (body l) = []) := by rintro rfl; rfl
  generalize whole (body l) = W at *
  generalize frac (body l) = F at *
  generalize hasPt (body l) = P at *
  generalize ng l = N at *
  generalize body l = D at *
  have b4 := ins_len W true
  go_enter Tryd.func14, Tryd.ntmps14
  go_wp2_with fail
  refine hcp.mono ?_
  rintro e w1 ⟨rfl, hb1⟩
  clear hcp
  go_wp2_with fail
  refine (hct w1 hb1).mono ?_
  rintro e w2 ⟨rfl, hb2⟩
  clear hct
  have hb12 := below_step hb1 hb2
  have ho2 := owns_later ho hb12
  by_cases hbad : W = [] ∨ W.all isDig = false
  · have HE : Hid (grp l = l) := by
      show _ = _
      rw [HG.out, if_neg]
      rintro ⟨h1, h2⟩
      rcases hbad with h | h
      · exact h1 h
      · rw [h] at h2; cases h2
    have hbad' : W.isEmpty = true ∨ (W.isEmpty = false ∧ Lib.trimS W [48, 49, 50, 51, 52, 53, 54, 55, 56, 57] ≠ []) := by
      rcases hbad with h | h
      · subst h; exact .inl rfl
      · cases W with
        | nil => exact .inl rfl
        | cons c r =>
          refine .inr ⟨rfl, fun h2 => ?_⟩
          rw [hta.1 h2] at h
          cases h
    have HT : Hid (∀ v' w', w'.ownsRow B 5 1 v' (bs.length + (Str l).size) (byteVals bs ++ Lib.strCells (Str l)) → w.grownBy w' v.ownBlock → (v' = .slice none 0 0 ↔ v = .slice none 0 0 ∧ l = []) → AppR w B v bs l (.returned v') w') := by
      show ∀ _ _, _
      intro v' w' h1 h2 h3
      refine ⟨v', rfl, ?_, h2, ?_⟩
      · show w'.ownsRow _ _ _ _ _ _
        rw [HE.out, byteVals_app, List.length_append]
        rw [strCells_str] at h1
        exact h1
      · exact h3
    clear hbad HE HG hta HN
    rcases hbad' with hWe | ⟨hWe, hne⟩
    · clear htr
      have hg12 := grown_of_below v.ownBlock hb12
      have hB2 : B ≤ w2.heap.size := Nat.le_trans hB hb12.size
      clear hb12 ho hb1 hb2
      go_wp2_with (at_builtin; refine Lib.wpList_append_own_string _ rfl (.tmp 29) (.tmp 30) 22 9 rfl B 5 i0 Tryd.underlying22 Tryd.underlying9 hi hz0 hz1 hz2 v _ _ rfl ho2 (Str l) rfl ?c3 ?c4 ?c5 ?_)
      case c3 => rw [str_size]; unfold maxLen; omega
      case c4 => rw [str_size]; omega
      case c5 => exact hB2
      intro v1 w4 ho4 hg4 hn4
      have HFIN : Hid _ := HT.out v1 w4 ho4 (hg12.trans hg4) hn4
      clear HT ho4 hg4 hn4 ho2 hg12
      go_wp2
      go_ret
      exact HFIN.out
    · have htr2 := htr w2
      clear htr
      generalize Lib.trimS W [48, 49, 50, 51, 52, 53, 54, 55, 56, 57] = T at *
      have hTe : T.isEmpty = false := by cases T with | nil => exact absurd rfl hne | cons _ _ => rfl
      clear hne
      go_wp2_with fail
      refine htr2.mono ?_
      rintro e w3 ⟨rfl, hb3⟩
      clear htr2
      have hb13 := below_step hb12 hb3
      have ho3 := owns_later ho2 hb3
      have hg12 := grown_of_below v.ownBlock hb13
      have hB2 : B ≤ w3.heap.size := Nat.le_trans hB hb13.size
      clear hb12 ho hb1 hb2 hb13 hb3 ho2
      go_wp2_with (at_builtin; refine Lib.wpList_append_own_string _ rfl (.tmp 29) (.tmp 30) 22 9 rfl B 5 i0 Tryd.underlying22 Tryd.underlying9 hi hz0 hz1 hz2 v _ _ rfl ho3 (Str l) rfl ?c3 ?c4 ?c5 ?_)
      case c3 => rw [str_size]; unfold maxLen; omega
      case c4 => rw [str_size]; omega
      case c5 => exact hB2
      intro v1 w4 ho4 hg4 hn4
      have HFIN : Hid _ := HT.out v1 w4 ho4 (hg12.trans hg4) hn4
      clear HT ho4 hg4 hn4 ho3 hg12
      go_wp2
      go_ret
      exact HFIN.out
  · have hW0 : ¬ W = [] := fun h => hbad (.inl h)
    have hWd : W.all isDig = true := by
      cases h : W.all isDig with
      | true => rfl
      | false => exact absurd (.inr h) hbad
    have HE : Hid (grp l = (if N then [45] else []) ++ ins true W ++ (if P then 46 :: F else [])) := by
      show _ = _
      rw [HG.out, if_pos ⟨hW0, hWd⟩]
    clear HG hbad
    have htr2 := htr w2
    rw [hta.2 hWd] at htr2
    clear htr hta hWd
    have hWe : W.isEmpty = false := by cases W with | nil => exact absurd rfl hW0 | cons _ _ => rfl
    clear hW0
    go_wp2_with fail
    refine htr2.mono ?_
    rintro e w3 ⟨rfl, hb3⟩
    clear htr2
    have hb13 := below_step hb12 hb3
    have ho3 := owns_later ho2 hb3
    have hk3 : Kp w v.ownBlock w3 v := ⟨grown_of_below _ hb13, .inl rfl⟩
    have hB3 : B ≤ w3.heap.size := Nat.le_trans hB hb13.size
    clear ho2 ho hb1 hb2 hb12 hb3 hb13
    go_upto_if 32 with fail
    have hWne : Hid (W ≠ []) := fun h => by rw [h] at hWe; cases hWe
    clear hWe
    go_cut [0] (fun v0 wx => GCut w B v.ownBlock (bs ++ (if N then [45] else [])) v0 wx)
    case first =>
      cases N with
      | false =>
        have HREL : Hid (GCut w B v.ownBlock (bs ++ (if false = true then [45] else [])) v w3) := ⟨by show OwnB _ _ _ _; simpa using ho3, hk3, hB3⟩
        clear ho3 hk3
        go_wp2
        go_meet
        exact HREL.out
      | true =>
        have ho4 := owns_later ho3 ((Below.refl _ _).alloc (Nat.le_refl _) (.cells #[.int .u8 45] 5))
        have hnew := cell_one_new w3 (.int .u8 45) 5
        go_wp2_with (at_builtin; refine wpList_append_own_at _ rfl (.tmp 33) (.tmp 34) 22 rfl B 5 i0 (.int .u8 0) 1 1 Tryd.underlying22 hi hz0 hz1 hz2 rfl (by decide) _ _ _ rfl ho4 ⟨_, 0, none⟩ 1 1 [.int .u8 45] rfl rfl hnew (one_u8 45) (by unfold maxLen; omega) (by omega) (by simp; omega) ?_; intro v5 w5 ho5 hg5 hn5 ha5)
        have HREL : Hid (GCut w B v.ownBlock (bs ++ (if true = true then [45] else [])) v5 w5) := ⟨by show w5.ownsRow _ _ _ _ _ _; simpa [byteVals] using ho5, (hk3.alloc _).next hg5 ha5, Nat.le_trans (by simp; omega) hg5.size⟩
        clear ho3 hk3 ho4 hnew ho5 hg5 hn5 ha5
        go_wp2
        go_meet
        exact HREL.out
    case rest =>
      rename World => w9
      obtain ⟨ho9, hk9, hB9⟩ := hcut
      clear ho3 hk3 hB3
      have hpl : (bs ++ (if N then [45] else [])).length ≤ 4194305 := by
        rw [List.length_append]
        cases N <;> simp <;> omega
      generalize hpre : bs ++ (if N then [45] else []) = pre at *
      have HE2 : Hid (bs ++ grp l = pre ++ ins true W ++ (if P then 46 :: F else [])) := by
        show _ = _
        rw [HE.out, ← hpre]
        simp only [List.append_assoc]
      clear HE hpre
      go_wp2
      go_loopw [0, 38, 10] (fun v0 i _ wr => GRel w B v.ownBlock pre W v0 i wr) (fun _ i _ _ => W.length - (intOf i).toNat)
      case atStart => exact ⟨0, pre, Nat.zero_le _, rfl, rfl, ho9, hk9, hB9⟩
      case round =>
        rename World => W0
        clear ho9 hk9 hB9
        obtain ⟨k, done, hk, rfl, hdone, ho, hkp, hBr⟩ := hrel
        have hdl : done.length ≤ 4194305 + 2 * 4194304 := by
          have := congrArg List.length hdone
          rw [List.length_append, List.length_append] at this
          omega
        by_cases hlt : k < W.length
        · have hWk : W[k]? = some (W[k]) := by simp [hlt]
          have hdrop : W.drop k = W[k] :: W.drop (k + 1) := List.drop_eq_getElem_cons hlt
          generalize W[k] = c at *
          have hsi : ∀ h, (Str W)[k]'h = c := fun h => by
            obtain ⟨h1, h2⟩ := List.getElem?_eq_some_iff.1 hWk
            rw [← h2]; rfl
          have i1 : (k : Int) < (W.length : Int) := by omega
          have i3 : (0 : Int) ≤ (k : Int) := by omega
          have hnk : (decide (k + 1 = 0)) = false := by simp
          have hlen1 : (W.drop (k + 1)).length + 1 = W.length - k := by simp; omega
          have e1 : IntKind.i64.wrap ((W.length : Int) - (k : Int)) = ((W.length - k : Nat) : Int) := by rw [IntWalk.i64_in _ ⟨by omega, by omega⟩]; omega
          obtain ⟨q, hq⟩ : ∃ q, q = W.length - k := ⟨_, rfl⟩
          rw [← hq] at e1
          have hins : ins (decide (k = 0)) (W.drop k) = (if 0 < k ∧ q % 3 = 0 then [44] else []) ++ c :: ins (decide (k + 1 = 0)) (W.drop (k + 1)) := by
            rw [hdrop, hnk]
            show (if decide (k = 0) = false ∧ ((W.drop (k + 1)).length + 1) % 3 = 0 then [44] else []) ++ c :: ins false (W.drop (k + 1)) = _
            rw [hlen1, ← hq]
            congr 1
            by_cases h0 : k = 0
            · subst h0; simp
            · simp [h0, Nat.pos_of_ne_zero h0]
          rw [hins] at hdone
          have HD : Hid _ := hdone
          clear hdone hins hdrop hlen1 hnk hWk
          by_cases hk0 : 0 < k
          · have dk : decide (0 < k) = true := by simp [hk0]
            by_cases hq3 : q % 3 = 0
            · have m3 : (((q : Int) % 3) == 0) = true := by rw [beq_iff_eq]; omega
              have HD2 : Hid ((done ++ [44] ++ [c]) ++ ins (decide (k + 1 = 0)) (W.drop (k + 1)) = pre ++ ins true W) := by
                show _ = _
                rw [← HD.out, if_pos ⟨hk0, hq3⟩]
                simp
              clear HD hq3 hk0 hq
              have ho4 := owns_later ho ((Below.refl _ _).alloc (Nat.le_refl _) (.cells #[.int .u8 44] 5))
              have hnew := cell_one_new W0 (.int .u8 44) 5
              go_wp2_with (first
                | (at_builtin; refine wpList_append_own_at _ rfl (.tmp 51) (.tmp 52) 22 rfl B 5 i0 (.int .u8 0) 1 1 Tryd.underlying22 hi hz0 hz1 hz2 rfl (by decide) _ _ _ rfl ho4 ⟨_, 0, none⟩ 1 1 [.int .u8 44] rfl rfl hnew (one_u8 44) (by unfold maxLen; omega) (by omega) (by simp; omega) ?_; intro v5 w5 ho5 hg5 hn5 ha5; have ho6 := owns_later ho5 ((Below.refl _ _).alloc (Nat.le_refl _) (.cells #[.int .u8 (c.toNat : Int)] 5)); have hnew2 := cell_one_new w5 (.int .u8 (c.toNat : Int)) 5; have hk5 := (hkp.alloc (.cells #[.int .u8 44] 5)).next hg5 ha5; have hB5 : B ≤ w5.heap.size := Nat.le_trans (by simp; omega) hg5.size; clear hg5 ha5 hn5 ho4 hnew)
                | (at_builtin; refine wpList_append_own_at _ rfl (.tmp 54) (.tmp 58) 22 rfl B 5 i0 (.int .u8 0) 1 1 Tryd.underlying22 hi hz0 hz1 hz2 rfl (by decide) _ _ _ rfl ho6 ⟨_, 0, none⟩ 1 1 [.int .u8 (c.toNat : Int)] rfl rfl hnew2 (one_u8 _) (by unfold maxLen; omega) (by omega) (by simp; omega) ?_; intro v7 w7 ho7 hg7 hn7 ha7))
              have HREL : Hid (GRel w B v.ownBlock pre W v7 (.int .i64 ((k + 1 : Nat) : Int)) w7) := ⟨k + 1, done ++ [44] ++ [c], by omega, rfl, HD2.out, by show w7.ownsRow _ _ _ _ _ _; simpa [byteVals, Nat.add_assoc] using ho7, (hk5.alloc _).next hg7 ha7, Nat.le_trans (by simp; omega) hg7.size⟩
              clear HD2 ho5 ho6 ho7 hg7 hn7 ha7 hk5 hkp ho hnew2
              go_wp2
              go_roundw
              case rel => exact HREL.out
              case measure => simp [intOf]; omega
            · have m3 : (((q : Int) % 3) == 0) = false := by rw [beq_eq_false_iff_ne]; omega
              have HD2 : Hid ((done ++ [c]) ++ ins (decide (k + 1 = 0)) (W.drop (k + 1)) = pre ++ ins true W) := by
                show _ = _
                rw [← HD.out, if_neg (fun h => hq3 h.2)]
                simp
              clear HD hq3 hk0 hq
              have ho6 := owns_later ho ((Below.refl _ _).alloc (Nat.le_refl _) (.cells #[.int .u8 (c.toNat : Int)] 5))
              have hnew2 := cell_one_new W0 (.int .u8 (c.toNat : Int)) 5
              go_wp2_with (at_builtin; refine wpList_append_own_at _ rfl (.tmp 54) (.tmp 58) 22 rfl B 5 i0 (.int .u8 0) 1 1 Tryd.underlying22 hi hz0 hz1 hz2 rfl (by decide) _ _ _ rfl ho6 ⟨_, 0, none⟩ 1 1 [.int .u8 (c.toNat : Int)] rfl rfl hnew2 (one_u8 _) (by unfold maxLen; omega) (by omega) (by simp; omega) ?_; intro v7 w7 ho7 hg7 hn7 ha7)
              have HREL : Hid (GRel w B v.ownBlock pre W v7 (.int .i64 ((k + 1 : Nat) : Int)) w7) := ⟨k + 1, done ++ [c], by omega, rfl, HD2.out, by show w7.ownsRow _ _ _ _ _ _; simpa [byteVals, Nat.add_assoc] using ho7, (hkp.alloc _).next hg7 ha7, Nat.le_trans (by simp; omega) hg7.size⟩
              clear HD2 ho6 ho7 hg7 hn7 ha7 hkp ho hnew2
              go_wp2
              go_roundw
              case rel => exact HREL.out
              case measure => simp [intOf]; omega
          · have hk0' : k = 0 := by omega
            subst hk0'
            have HD2 : Hid ((done ++ [c]) ++ ins (decide (0 + 1 = 0)) (W.drop (0 + 1)) = pre ++ ins true W) := by
              show _ = _
              rw [← HD.out, if_neg (fun h => hk0 h.1)]
              simp
            clear HD hk0 hq
            have ho6 := owns_later ho ((Below.refl _ _).alloc (Nat.le_refl _) (.cells #[.int .u8 (c.toNat : Int)] 5))
            have hnew2 := cell_one_new W0 (.int .u8 (c.toNat : Int)) 5
            go_wp2_with (at_builtin; refine wpList_append_own_at _ rfl (.tmp 54) (.tmp 58) 22 rfl B 5 i0 (.int .u8 0) 1 1 Tryd.underlying22 hi hz0 hz1 hz2 rfl (by decide) _ _ _ rfl ho6 ⟨_, 0, none⟩ 1 1 [.int .u8 (c.toNat : Int)] rfl rfl hnew2 (one_u8 _) (by unfold maxLen; omega) (by omega) (by simp; omega) ?_; intro v7 w7 ho7 hg7 hn7 ha7)
            have HREL : Hid (GRel w B v.ownBlock pre W v7 (.int .i64 ((1 : Nat) : Int)) w7) := ⟨1, done ++ [c], by omega, rfl, HD2.out, by show w7.ownsRow _ _ _ _ _ _; simpa [byteVals, Nat.add_assoc] using ho7, (hkp.alloc _).next hg7 ha7, Nat.le_trans (by simp; omega) hg7.size⟩
            clear HD2 ho6 ho7 hg7 hn7 ha7 hkp ho hnew2
            go_wp2
            go_roundw
            case rel => exact HREL.out
            case measure => simp [intOf]; omega
        · have hkn : k = W.length := by omega
          subst hkn
          rw [List.drop_length] at hdone
          have e0 : ins (decide (W.length = 0)) [] = [] := rfl
          rw [e0, List.append_nil] at hdone
          subst hdone
          have HT : Hid (∀ v' w', OwnB w' B v' (bs ++ grp l) → w.grownBy w' v.ownBlock → AppR w B v bs l (.returned v') w') := by
            show ∀ _ _, _
            intro v' w' h1 h2
            have hl0 : l ≠ [] := fun h => hWne.out (HN.out h)
            refine ⟨v', rfl, h1, h2, ⟨fun h => absurd h (owns_ne h1 ?_), fun h => absurd h.2 hl0⟩⟩
            intro h
            rw [List.append_eq_nil_iff, grp_nil] at h
            exact hl0 h.2
          have hpl2 := hdl
          generalize pre ++ ins true W = X at *
          clear HN hdl hWne
          cases P with
          | false =>
            have HFIN : Hid _ := HT.out u0 W0 (by rw [HE2.out]; simpa using ho) hkp.1
            clear HT ho hkp HE2
            go_wp2
            go_ret
            exact HFIN.out
          | true =>
            have ho4 := owns_later ho ((Below.refl _ _).alloc (Nat.le_refl _) (.cells #[.int .u8 46] 5))
            have hnew := cell_one_new W0 (.int .u8 46) 5
            go_wp2_with (first
              | (at_builtin; refine wpList_append_own_at _ rfl (.tmp 62) (.tmp 63) 22 rfl B 5 i0 (.int .u8 0) 1 1 Tryd.underlying22 hi hz0 hz1 hz2 rfl (by decide) _ _ _ rfl ho4 ⟨_, 0, none⟩ 1 1 [.int .u8 46] rfl rfl hnew (one_u8 46) (by unfold maxLen; omega) (by omega) (by simp; omega) ?_; intro v5 w5 ho5 hg5 hn5 ha5; have hk5 := (hkp.alloc (.cells #[.int .u8 46] 5)).next hg5 ha5; have hB5 : B ≤ w5.heap.size := Nat.le_trans (by simp; omega) hg5.size; clear hg5 ha5 hn5 ho4 hnew)
              | (at_builtin; refine Lib.wpList_append_own_string _ rfl (.tmp 64) (.tmp 65) 22 9 rfl B 5 i0 Tryd.underlying22 Tryd.underlying9 hi hz0 hz1 hz2 v5 _ _ rfl ho5 (Str F) rfl (by rw [str_size]; unfold maxLen; omega) (by rw [str_size]; omega) hB5 ?_; intro v7 w7 ho7 hg7 hn7))
            have HFIN : Hid _ := HT.out v7 w7 (by
              show w7.ownsRow _ _ _ _ _ _
              rw [HE2.out]
              rw [strCells_str, str_size] at ho7
              simpa [byteVals, Nat.add_assoc, Nat.add_comm 1] using ho7) (hk5.last hg7)
            clear HT ho5 ho7 hg7 hn7 hk5 hkp ho HE2
            go_wp2
            go_ret
            exact HFIN.out

end Go.Proofs.Qxb6601132aDoor
