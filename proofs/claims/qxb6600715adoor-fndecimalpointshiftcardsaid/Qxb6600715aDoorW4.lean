/-
  Seat b6600715aD: stripping underscores. By an AI agent (seat 043).
-/
import Derived.Test.Qxb6600715aDoorW3
set_option linter.unusedSimpArgs false
set_option linter.unusedVariables false
namespace Go.Proofs.Qxb6600715aDoor
open Go.RowKit

theorem strip_take {bs : List UInt8} {k : Nat} {b : UInt8} (h : bs[k]? = some b) : strip (bs.take (k + 1)) = strip (bs.take k) ++ (if b = 95 then [] else [b]) := by
  rw [List.take_add_one, h, strip_app]
  by_cases h95 : b = 95 <;> simp [strip, h95]

theorem owns_later {w w' : World} {base : Nat} {e : TypeId} {size : Nat} {v : Value} {n : Nat} {xs : List Value} (h : w.ownsRow base e size v n xs) (hb : Below w.heap.size w w') : w'.ownsRow base e size v n xs := by
  refine ⟨h.1, ?_⟩
  rcases h.2 with hn | ⟨g, cap, cur, rfl, hbb, hgg, rest⟩
  · exact .inl hn
  · refine .inr ⟨g, cap, cur, rfl, hbb, ?_, rest⟩
    rw [hb.block g (Array.getElem?_eq_some_iff.1 hgg).1]
    exact hgg
theorem below_step {a b c : World} (h : Below a.heap.size a b) (k : Below b.heap.size b c) : Below a.heap.size a c := h.trans (k.mono h.size)

/-- A row of bytes that the call owns. -/
abbrev OwnB (w : World) (B : Nat) (v : Value) (bs : List UInt8) : Prop := w.ownsRow B 5 1 v bs.length (byteVals bs)

def SRel (bs : List UInt8) (w : World) (v i : Value) (wr : World) : Prop :=
  ∃ k : Nat, k ≤ bs.length ∧ i = .int .i64 (k : Int) ∧ OwnB wr w.heap.size v (strip (bs.take k)) ∧ Below w.heap.size w wr

set_option maxRecDepth 100000 in
set_option maxHeartbeats 1000000 in
theorem strip_any (a : Option Addr) (n cap : Nat) (bs : List UInt8) (w : World) (hn : bs.length = n) (hmax : n ≤ 65536) (hs : BAt w a bs) :
    Calls Tryd.prog 11 #[.slice a n cap] w fun e w' => NewB w (strip bs) e w' := by
  obtain ⟨i0, hi, hz0, hz1, hz2⟩ := info_parts info5
  have hle := strip_len_le bs
  have hcd := countDigits_any a n cap bs w hn hmax hs
  subst hn
  go_enter Tryd.func11, Tryd.ntmps11
  go_wp2_with fail
  refine hcd.mono ?_
  rintro e w' ⟨rfl, rfl⟩
  clear hcd
  go_wp2_with (at_make; refine wpList_make_own _ rfl _ _ 22 rfl w'.heap.size 5 i0 (.int .u8 0) 1 Tryd.underlying22 hi hz0 hz1 .i64 .i64 _ (strip bs).length rfl rfl rfl (by rw [hz2]; omega) (by unfold maxLen; omega) (Nat.le_refl _) ?_; intro w1 hown hgrow)
  have hb1 : Below w'.heap.size w' w1 := (Below.refl _ _).grown hgrow (Nat.le_refl _) (fun k h => by cases h)
  clear hgrow
  go_loopw [3, 4] (fun v i wr => SRel bs w' v i wr) (fun _ i _ => bs.length - (intOf i).toNat)
  case atStart => exact ⟨0, Nat.zero_le _, rfl, hown, hb1⟩
  case round =>
    rename World => W0
    clear hown hb1
    obtain ⟨k, hk, rfl, ho, hb⟩ := hrel
    by_cases hlt : k < bs.length
    · have hbk : bs[k]? = some (bs[k]) := by simp [hlt]
      generalize bs[k] = b at *
      obtain ⟨g, off, rfl, hcell⟩ := hs.later hb k b hbk
      have ht := strip_take hbk
      have hlk : (strip (bs.take k)).length ≤ k := Nat.le_trans (strip_len_le _) (by simp; omega)
      by_cases h95 : b = 95
      · subst h95
        simp only [if_true, List.append_nil] at ht
        have HREL : Hid (OwnB W0 w'.heap.size u3 (strip (bs.take (k + 1)))) := by
          show OwnB _ _ _ _
          rw [ht]; exact ho
        have h95' := eq95
        clear ht ho
        go_wp2
        go_roundw
        case rel => exact ⟨k + 1, by omega, by go_num, HREL.out, hb⟩
        case measure => simp [intOf]; omega
      · have h95' := ne95 b h95
        simp only [h95, if_false] at ht
        have ho1 := owns_later ho ((Below.refl _ _).alloc (Nat.le_refl _) (.cells #[.int .u8 (b.toNat : Int)] 5))
        have hnew := cell_one_new W0 (.int .u8 (b.toNat : Int)) 5
        go_wp2_with (at_builtin; refine wpList_append_own _ rfl (.tmp 19) (.tmp 24) 22 rfl w'.heap.size 5 i0 (.int .u8 0) 1 1 Tryd.underlying22 hi hz0 hz1 hz2 rfl (by decide) _ _ _ rfl ho1 ⟨_, 0, none⟩ 1 1 [.int .u8 (b.toNat : Int)] rfl rfl ?c1 ?c2 ?c3 ?c4 ?c5 ?_)
        case c1 => exact hnew
        case c2 => intro u hu; simp at hu; subst hu; rfl
        case c3 => unfold maxLen; omega
        case c4 => omega
        case c5 => have := hb.size; simp; omega
        intro v1 w2 ho2 hg2 _
        have hb2 : Below w'.heap.size w' w2 := (hb.alloc hb.size _).grown hg2 (by have := hb.size; simp; omega) (fun g hg => (ho.lt g hg).1)
        have HREL : Hid (OwnB w2 w'.heap.size v1 (strip (bs.take (k + 1)))) := by
          show OwnB _ _ _ _
          rw [ht]
          show w2.ownsRow _ _ _ _ _ _
          simpa [byteVals] using ho2
        clear ht ho ho1 ho2 hg2 hnew hcell hs
        go_wp2
        go_roundw
        case rel => exact ⟨k + 1, by omega, by go_num, HREL.out, hb2⟩
        case measure => simp [intOf]; omega
    · have hkn : k = bs.length := by omega
      subst hkn
      rw [List.take_length] at ho
      obtain ⟨a1, c1, rfl, hc1, hc2, hat⟩ := BAt.of_owns ho
      have HFIN : Hid (NewB w' (strip bs) (.returned (.slice a1 (strip bs).length c1)) W0) := ⟨_, _, rfl, hc1, hc2, hat, hb⟩
      clear ho hat hb hs
      go_wp2
      go_ret
      exact HFIN.out

/-- The parts of a number in memory: each a slice of bytes. -/
def PartsAt (w : World) (g : Nat) (ps : List (Option Addr × Nat × Nat × List UInt8)) : Prop :=
  ∀ k p, ps[k]? = some p → w.cell? ⟨g, k, none⟩ = some (.slice p.1 p.2.1 p.2.2.1) ∧ p.2.2.2.length = p.2.1 ∧ p.2.1 ≤ 131072 ∧ BAt w p.1 p.2.2.2
def allB (ps : List (Option Addr × Nat × Nat × List UInt8)) : List UInt8 := (ps.map fun p => strip p.2.2.2).flatten
theorem PartsAt.later {w w' : World} {g : Nat} {ps : List (Option Addr × Nat × Nat × List UInt8)} (h : PartsAt w g ps) (hb : Below w.heap.size w w') : PartsAt w' g ps := fun k p hk =>
  have ⟨h1, h2, h3, h4⟩ := h k p hk
  ⟨cell_later hb h1, h2, h3, h4.later hb⟩
theorem allB_take {ps : List (Option Addr × Nat × Nat × List UInt8)} {k : Nat} {p : Option Addr × Nat × Nat × List UInt8} (h : ps[k]? = some p) : allB (ps.take (k + 1)) = allB (ps.take k) ++ strip p.2.2.2 := by
  unfold allB
  rw [List.take_add_one, h, List.map_append, List.flatten_append]
  simp
theorem allB_len (ps : List (Option Addr × Nat × Nat × List UInt8)) (hm : ∀ p ∈ ps, p.2.2.2.length ≤ 131072) : (allB ps).length ≤ 131072 * ps.length := by
  induction ps with
  | nil => simp [allB]
  | cons p ps ih =>
    have h1 := ih (fun q hq => hm q (by simp [hq]))
    have h2 := hm p (by simp)
    have h3 := strip_len_le p.2.2.2
    unfold allB at h1 ⊢
    rw [List.map_cons, List.flatten_cons, List.length_append, List.length_cons]
    omega

def URel (ps : List (Option Addr × Nat × Nat × List UInt8)) (w : World) (v i : Value) (wr : World) : Prop :=
  ∃ k : Nat, k ≤ ps.length ∧ i = .int .i64 (k : Int) ∧ OwnB wr w.heap.size v (allB (ps.take k)) ∧ Below w.heap.size w wr
def VRel (pre bs : List UInt8) (w : World) (v i : Value) (wr : World) : Prop :=
  ∃ k : Nat, k ≤ bs.length ∧ i = .int .i64 (k : Int) ∧ OwnB wr w.heap.size v (pre ++ strip (bs.take k)) ∧ Below w.heap.size w wr

set_option maxRecDepth 100000 in
set_option maxHeartbeats 1000000 in
theorem without_any (g : Nat) (cap : Nat) (ps : List (Option Addr × Nat × Nat × List UInt8)) (w : World) (hl : ps.length ≤ 4) (hs : PartsAt w g ps) :
    Calls Tryd.prog 21 #[.slice (some ⟨g, 0, none⟩) ps.length cap] w fun e w' => NewB w (allB ps) e w' := by
  obtain ⟨i0, hi, hz0, hz1, hz2⟩ := info_parts info5
  go_enter Tryd.func21, Tryd.ntmps21
  go_wp2
  go_loopw [3, 10] (fun v i wr => URel ps w v i wr) (fun _ i _ => ps.length - (intOf i).toNat)
  case atStart => exact ⟨0, Nat.zero_le _, rfl, World.ownsRow_nil _ _ _ _, Below.refl _ _⟩
  case round =>
    rename World => W0
    obtain ⟨k, hk, rfl, ho, hb⟩ := hrel
    by_cases hlt : k < ps.length
    · have hpk : ps[k]? = some (ps[k]) := by simp [hlt]
      obtain ⟨hc, hpl, hpm, hpa⟩ := hs.later hb k _ hpk
      have hmk : (allB (ps.take k)).length ≤ 131072 * 4 := Nat.le_trans (allB_len _ (fun p hp => by
        obtain ⟨j, hj⟩ := List.getElem?_of_mem (List.mem_of_mem_take hp)
        have := hs j p hj
        omega)) (by simp; omega)
      have hat := allB_take hpk
      generalize ps[k] = p at *
      obtain ⟨pa, pn, pc, pb⟩ := p
      simp only at hc hpl hpm hpa hat
      subst hpl
      have i1 : (k : Int) < (ps.length : Int) := by omega
      have i3 : (0 : Int) ≤ (k : Int) := by omega
      generalize allB (ps.take k) = pre at *
      go_wp2
      go_loopw [3, 16] (fun v i wr => VRel pre pb w v i wr) (fun _ i _ => pb.length - (intOf i).toNat)
      case atStart => exact ⟨0, Nat.zero_le _, rfl, by simpa [strip] using ho, hb⟩
      case round =>
        rename World => W1
        clear ho
        obtain ⟨q, hq, rfl, ho, hb1⟩ := hrel
        by_cases hltq : q < pb.length
        · have hbk : pb[q]? = some (pb[q]) := by simp [hltq]
          have hpa1 := (hs.later hb1 k _ hpk).2.2.2
          simp only at hpa1
          generalize pb[q] = b at *
          obtain ⟨g2, off, rfl, hcell⟩ := hpa1 q b hbk
          have ht := strip_take hbk
          have hlk : (strip (pb.take q)).length ≤ q := Nat.le_trans (strip_len_le _) (by simp; omega)
          by_cases h95 : b = 95
          · subst h95
            simp only [if_true, List.append_nil] at ht
            have HREL : Hid (OwnB W1 w.heap.size u3 (pre ++ strip (pb.take (q + 1)))) := by
              show OwnB _ _ _ _
              rw [ht]; exact ho
            have h95' := eq95
            clear ht ho
            go_wp2
            go_roundw
            case rel => exact ⟨q + 1, by omega, by go_num, HREL.out, hb1⟩
            case measure => simp [intOf]; omega
          · have h95' := ne95 b h95
            simp only [h95, if_false] at ht
            have ho1 := owns_later ho ((Below.refl _ _).alloc (Nat.le_refl _) (.cells #[.int .u8 (b.toNat : Int)] 5))
            have hnew := cell_one_new W1 (.int .u8 (b.toNat : Int)) 5
            have hpl : (pre ++ strip (pb.take q)).length ≤ 131072 * 5 := by simp; omega
            have HT : Hid _ := ht
            have HPK : Hid _ := hpk
            have HAT : Hid _ := hat
            clear ht hpk hat h95
            go_wp2_with (at_builtin; refine wpList_append_own _ rfl (.tmp 22) (.tmp 24) 22 rfl w.heap.size 5 i0 (.int .u8 0) 1 1 Tryd.underlying22 hi hz0 hz1 hz2 rfl (by decide) _ _ _ rfl ho1 ⟨_, 0, none⟩ 1 1 [.int .u8 (b.toNat : Int)] rfl rfl ?c1 ?c2 ?c3 ?c4 ?c5 ?_)
            case c1 => exact hnew
            case c2 => intro u hu; simp at hu; subst hu; rfl
            case c3 => unfold maxLen; omega
            case c4 => omega
            case c5 => have := hb1.size; simp; omega
            intro v1 w2 ho2 hg2 _
            have hb2 : Below w.heap.size w w2 := (hb1.alloc hb1.size _).grown hg2 (by have := hb1.size; simp; omega) (fun g hg => (ho.lt g hg).1)
            have HREL : Hid (OwnB w2 w.heap.size v1 (pre ++ strip (pb.take (q + 1)))) := by
              show w2.ownsRow _ _ _ _ _ _
              rw [HT.out]
              simpa [byteVals, Nat.add_assoc] using ho2
            clear ho ho1 ho2 hg2 hnew hcell hpl
            go_wp2
            go_roundw
            case rel => exact ⟨q + 1, by omega, by go_num, HREL.out, hb2⟩
            case measure => simp [intOf]; omega
        · have hqn : q = pb.length := by omega
          subst hqn
          rw [List.take_length, ← hat] at ho
          have HREL : Hid (OwnB W1 w.heap.size u3 (allB (ps.take (k + 1)))) := ho
          clear ho
          go_wp2
          go_roundw
          case rel => exact ⟨k + 1, by omega, by go_num, HREL.out, hb1⟩
          case measure => simp [intOf]; omega
    · have hkn : k = ps.length := by omega
      subst hkn
      rw [List.take_length] at ho
      obtain ⟨a1, c1, rfl, hc1, hc2, hat⟩ := BAt.of_owns ho
      have HFIN : Hid (NewB w (allB ps) (.returned (.slice a1 (allB ps).length c1)) W0) := ⟨_, _, rfl, hc1, hc2, hat, hb⟩
      clear ho hat hb hs
      go_wp2
      go_ret
      exact HFIN.out

end Go.Proofs.Qxb6600715aDoor
