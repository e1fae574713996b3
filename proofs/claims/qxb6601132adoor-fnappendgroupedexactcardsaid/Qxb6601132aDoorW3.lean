/-
  Seat b6601132aD: withoutCommas, slices of slices, what stands ahead of each law's own part. By an AI agent (seat 043).
-/
import Derived.Test.Qxb6601132aDoorW2
import Derived.Lib.SlBytesConst
import Derived.Lib.Bytes
import Derived.Shelf.Bytes.SlSmallAll
set_option linter.unusedSimpArgs false
set_option linter.unusedVariables false
namespace Go.Proofs.Qxb6601132aDoor
open Go.RowKit

theorem zz_any (v : Value) (B : Nat) (bs l : List UInt8) (w : World) (hB : B ≤ w.heap.size) (ho : OwnB w B v bs) (hbl : bs.length ≤ 4194304) (hll : l.length ≤ 4194304) (L : Libs w) :
    Calls Tryd.prog 8 #[v, .string (Str l)] w fun e w' => AppR w B v bs l e w' := by
  have h := app_any v B bs l w hB ho hbl hll L
  go_enter Tryd.func8, Tryd.ntmps8
  go_wp2_with fail
  refine h.mono ?_
  rintro e w' ⟨v', rfl, h1, h2, h3⟩
  have HFIN : Hid (AppR w B v bs l (.returned v') w') := ⟨v', rfl, h1, h2, h3⟩
  clear h1 h2 h3 h ho L
  go_wp2
  go_ret
  exact HFIN.out

def plainC (bs : List UInt8) : List UInt8 := bs.filter (· != 44)
theorem plain_take {bs : List UInt8} {k : Nat} {b : UInt8} (h : bs[k]? = some b) : plainC (bs.take (k + 1)) = plainC (bs.take k) ++ (if b = 44 then [] else [b]) := by
  unfold plainC
  rw [List.take_add_one, h, List.filter_append]
  by_cases h95 : b = 44 <;> simp [h95]
theorem plain_len (a : List UInt8) : (plainC a).length ≤ a.length := List.length_filter_le _ _
theorem ne44 (b : UInt8) (h : b ≠ 44) : ((b.toNat : Int) != 44) = true := by
  rw [bne_iff_ne]
  intro e
  apply h
  apply UInt8.toNat_inj.1
  show b.toNat = 44
  omega
theorem eq44 : (((44 : UInt8).toNat : Int) != 44) = false := rfl
/-- A new slice of bytes; nothing old has turned. -/
def NewB (w : World) (bs : List UInt8) (x : Ending) (w' : World) : Prop :=
  ∃ a cap, x = .returned (.slice a bs.length cap) ∧ bs.length ≤ cap ∧ cap ≤ 9223372036854775807 ∧ BAt w' a bs ∧ Below w.heap.size w w'
def SRel (bs : List UInt8) (w : World) (v i : Value) (wr : World) : Prop :=
  ∃ k : Nat, k ≤ bs.length ∧ i = .int .i64 (k : Int) ∧ OwnB wr w.heap.size v (plainC (bs.take k)) ∧ Below w.heap.size w wr

set_option maxRecDepth 100000 in
set_option maxHeartbeats 1000000 in
theorem woc_any (a : Option Addr) (cap : Nat) (bs : List UInt8) (w : World) (hmax : bs.length ≤ 16777216) (hs : BAt w a bs) :
    Calls Tryd.prog 12 #[.slice a bs.length cap] w fun e w' => NewB w (plainC bs) e w' := by
  obtain ⟨i0, hi, hz0, hz1, hz2⟩ := info_parts info5
  go_enter Tryd.func12, Tryd.ntmps12
  go_wp2_with (at_make; refine wpList_make_own _ rfl _ _ 22 rfl w.heap.size 5 i0 (.int .u8 0) 1 Tryd.underlying22 hi hz0 hz1 .i64 .i64 _ bs.length rfl rfl rfl (by rw [hz2]; omega) (by unfold maxLen; omega) (Nat.le_refl _) ?_; intro w1 hown hgrow)
  have hb1 : Below w.heap.size w w1 := (Below.refl _ _).grown hgrow (Nat.le_refl _) (fun k h => by cases h)
  clear hgrow
  go_loopw [3, 4] (fun v i wr => SRel bs w v i wr) (fun _ i _ => bs.length - (intOf i).toNat)
  case atStart => exact ⟨0, Nat.zero_le _, rfl, hown, hb1⟩
  case round =>
    rename World => W0
    clear hown hb1
    obtain ⟨k, hk, rfl, ho, hb⟩ := hrel
    by_cases hlt : k < bs.length
    · have hbk : bs[k]? = some (bs[k]) := by simp [hlt]
      generalize bs[k] = b at *
      obtain ⟨g, off, rfl, hcell⟩ := hs.later hb k b hbk
      have ht := plain_take hbk
      have hlk : (plainC (bs.take k)).length ≤ k := Nat.le_trans (plain_len _) (by simp; omega)
      by_cases h95 : b = 44
      · subst h95
        simp only [if_true, List.append_nil] at ht
        have HREL : Hid (OwnB W0 w.heap.size u3 (plainC (bs.take (k + 1)))) := by
          show OwnB _ _ _ _
          rw [ht]; exact ho
        have h95' := eq44
        clear ht ho
        go_wp2
        go_roundw
        case rel => exact ⟨k + 1, by omega, by go_num, HREL.out, hb⟩
        case measure => simp [intOf]; omega
      · have h95' := ne44 b h95
        simp only [h95, if_false] at ht
        have ho1 := owns_later ho ((Below.refl _ _).alloc (Nat.le_refl _) (.cells #[.int .u8 (b.toNat : Int)] 5))
        have hnew := cell_one_new W0 (.int .u8 (b.toNat : Int)) 5
        have hbs := hb.size
        have HT : Hid _ := ht
        clear ht h95
        go_wp2_with (at_builtin; refine wpList_append_own _ rfl (.tmp 19) (.tmp 24) 22 rfl w.heap.size 5 i0 (.int .u8 0) 1 1 Tryd.underlying22 hi hz0 hz1 hz2 rfl (by decide) _ _ _ rfl ho1 ⟨_, 0, none⟩ 1 1 [.int .u8 (b.toNat : Int)] rfl rfl hnew (one_u8 _) (by unfold maxLen; omega) (by omega) (by simp; omega) ?_; intro v1 w2 ho2 hg2 hn2)
        have hb2 : Below w.heap.size w w2 := (hb.alloc hb.size _).grown hg2 (by simp; omega) (fun g hg => (ho.lt g hg).1)
        have HREL : Hid (OwnB w2 w.heap.size v1 (plainC (bs.take (k + 1)))) := by
          show w2.ownsRow _ _ _ _ _ _
          rw [HT.out]
          simpa [byteVals] using ho2
        clear HT ho ho1 ho2 hg2 hnew hcell hs hn2 hbs
        go_wp2
        go_roundw
        case rel => exact ⟨k + 1, by omega, by go_num, HREL.out, hb2⟩
        case measure => simp [intOf]; omega
    · have hkn : k = bs.length := by omega
      subst hkn
      rw [List.take_length] at ho
      obtain ⟨a1, c1, rfl, hc1, hc2, hat⟩ := BAt.of_owns ho
      have HFIN : Hid (NewB w (plainC bs) (.returned (.slice a1 (plainC bs).length c1)) W0) := ⟨_, _, rfl, hc1, hc2, hat, hb⟩
      clear ho hat hb hs
      go_wp2
      go_ret
      exact HFIN.out

theorem bytesOf_vals (bs : List UInt8) : Lib.bytesOf (bs.map fun b => (b.toNat : Int)) = bs := by
  unfold Lib.bytesOf
  rw [List.map_map]
  conv => rhs; rw [← List.map_id bs]
  congr 1
  funext b
  simp
theorem conv_any (a : Option Addr) (c : Nat) (bs : List UInt8) (w : World) (hs : BAt w a bs) : (convert 22 9 (.slice a bs.length c)).run Tryd.prog w = .ok (.string ⟨bs.toArray⟩) w := by
  by_cases h0 : bs.length = 0
  · have hb : bs = [] := List.eq_nil_of_length_eq_zero h0
    subst hb
    exact run_convert_bytes_zero w 22 5 Tryd.underlying22 Tryd.underlying5 a c 9 Tryd.underlying9
  · obtain ⟨g, o, rfl, _⟩ := hs 0 (bs[0]) (by simp)
    rw [run_convert_bytes_arg w 22 5 Tryd.underlying22 Tryd.underlying5 g o bs.length c (bs.map fun b => (b.toNat : Int)) (by simp) (fun i hi => ?_) 9 Tryd.underlying9]
    · have e : strOfNums (bs.map fun b => (b.toNat : Int)) = ⟨bs.toArray⟩ := by
        have h := bytesOf_vals bs
        unfold Lib.bytesOf at h
        unfold strOfNums
        rw [h]
      rw [e]
    · obtain ⟨g', o', e, hc⟩ := hs i (bs[i]) (by simp [hi])
      cases e
      rw [hc]
      simp [List.getD, hi]

theorem BAt.drop {w : World} {g o : Nat} {bs : List UInt8} (h : BAt w (some ⟨g, o, none⟩) bs) (j : Nat) : BAt w (some ⟨g, o + j, none⟩) (bs.drop j) := by
  intro k b hk
  rw [List.getElem?_drop] at hk
  obtain ⟨g', o', e, hc⟩ := h (j + k) b hk
  cases e
  exact ⟨g, o + j, rfl, by rw [Nat.add_assoc]; exact hc⟩
theorem BAt.pre {w : World} {a : Option Addr} {x z : List UInt8} (h : BAt w a (x ++ z)) : BAt w a x := by
  intro k b hk
  have hl := (List.getElem?_eq_some_iff.1 hk).1
  exact h k b (by rw [List.getElem?_append_left hl]; exact hk)
theorem size_run5 (w : World) : (sizeOf (Tryd.prog.elem 22)).run Tryd.prog w = .ok 1 w := by
  obtain ⟨i0, hi, hz0, hz1, hz2⟩ := info_parts info5
  have e : Tryd.prog.elem 22 = 5 := by kernel_rfl
  rw [e]
  simp [sizeOf, typeInfo, hi, hz1]
/-- x[k:], k the length of the first part. -/
theorem slice_from (w : World) (a : Option Addr) (c : Nat) (x y : List UInt8) (h : BAt w a (x ++ y)) (hc : (x ++ y).length ≤ c) :
    ∃ a', BAt w a' y ∧ ∀ w', (Instr.slice 22 (.slice a (x ++ y).length c) (some (.int .i64 (x.length : Int))) none none).run Tryd.prog w' = .ok (.slice a' y.length (c - x.length)) w' := by
  have ht : Tryd.prog.underlying 22 = some (.slice (Tryd.prog.elem 22)) := by kernel_rfl
  have hl : (x ++ y).length = x.length + y.length := List.length_append
  refine ⟨if c = x.length then a else a.map (·.add (x.length * 1)), ?_, fun w' => ?_⟩
  · by_cases hy : y = []
    · subst hy; exact BAt.nil _ _
    · have hp : 0 < y.length := List.length_pos_iff.2 hy
      rw [if_neg (by omega)]
      obtain ⟨g, o, rfl, _⟩ := h 0 ((x ++ y)[0]) (by simp)
      have := BAt.drop h x.length
      rw [List.drop_left] at this
      simp only [Option.map_some, Nat.mul_one]
      have e : (⟨g, o, none⟩ : Addr).add x.length = ⟨g, o + x.length, none⟩ := by
        unfold Addr.add
        split
        · rename_i h0; simp [h0]
        · rfl
      rw [e]
      exact this
  · rw [run_slice_l w' 22 a _ c ht .i64 _ (by omega) (by omega)]
    rw [size_run5]
    simp only [Result.andThen_ok, sliced]
    congr 2
    omega
/-- x[:k]. -/
theorem slice_to (w : World) (a : Option Addr) (c : Nat) (x y : List UInt8) (h : BAt w a (x ++ y)) (hc : (x ++ y).length ≤ c) :
    ∃ a', BAt w a' x ∧ ∀ w', (Instr.slice 22 (.slice a (x ++ y).length c) none (some (.int .i64 (x.length : Int))) none).run Tryd.prog w' = .ok (.slice a' x.length c) w' := by
  have ht : Tryd.prog.underlying 22 = some (.slice (Tryd.prog.elem 22)) := by kernel_rfl
  have hl : (x ++ y).length = x.length + y.length := List.length_append
  refine ⟨a, h.pre, fun w' => ?_⟩
  rw [run_slice_h w' 22 a _ c ht .i64 _ (by omega) (by omega)]
  rw [size_run5]
  simp only [Result.andThen_ok, sliced]
  congr 2
  · cases a with
    | none => simp
    | some ad => simp [Addr.add]

/-- What stands behind the first three calls of each law. -/
structure Ahead (w : World) (nil0 : Bool) (bs l : List UInt8) (v1 vg : Value) (wg : World) (a1 ag : Option Addr) (c1 cg : Nat) : Prop where
  e1 : v1 = .slice a1 bs.length c1
  eg : vg = .slice ag (bs ++ grp l).length cg
  b1 : BAt wg a1 bs
  bg : BAt wg ag (bs ++ grp l)
  lg : (bs ++ grp l).length ≤ cg
  below : Below w.heap.size w wg
  n1 : a1.isNone = nil0
  ng : (ag = none ↔ nil0 = true ∧ l = [])

theorem ahead {w wa wb wg : World} {nil0 : Bool} {bs l : List UInt8} {v0 v1 vg : Value} (h0 : CloneB w nil0 bs (.returned v0) wa) (h1 : CloneB wa nil0 bs (.returned v1) wb) (hg : AppR wb w.heap.size v0 bs l (.returned vg) wg) :
    ∃ a1 ag c1 cg, Ahead w nil0 bs l v1 vg wg a1 ag c1 cg := by
  obtain ⟨_, e, ho0, hn0, hb0⟩ := h0
  cases e
  obtain ⟨_, e, ho1, hn1, hb1⟩ := h1
  cases e
  obtain ⟨_, e, hog, hgr, hng⟩ := hg
  cases e
  have hrow : ∀ k, v0.ownBlock = some k → k < wa.heap.size := fun k hk => (ho0.lt k hk).2
  have ho1g : OwnB wg wa.heap.size v1 bs := by
    refine ⟨ho1.1, ?_⟩
    rcases ho1.2 with hn | ⟨g, cap, cur, rfl, hbb, hgg, rest⟩
    · exact .inl hn
    · refine .inr ⟨g, cap, cur, rfl, hbb, ?_, rest⟩
      rw [hgr.block g (Array.getElem?_eq_some_iff.1 hgg).1 (fun e => by have := hrow g e.symm; omega)]
      exact hgg
  obtain ⟨a1, c1, e1, hc1, hc2, hat1⟩ := BAt.of_owns ho1g
  obtain ⟨ag, cg, eg, hcg, hcg2, hatg⟩ := BAt.of_owns hog
  refine ⟨a1, ag, c1, cg, e1, eg, hat1, hatg, hcg, ?_, ?_, ?_⟩
  · refine (below_step hb0 hb1).trans ⟨hgr.os, hgr.tape, hgr.output, hgr.size, fun k hk => hgr.block k ?_ (fun e => ?_)⟩
    · have := hb0.size; have := hb1.size; omega
    · have := (ho0.lt k e.symm).1; omega
  · subst e1
    cases nil0 with
    | true =>
      have := hn1.2 rfl
      injection this with h
      subst h
      rfl
    | false =>
      cases a1 with
      | some _ => rfl
      | none =>
        have hz : (Value.slice none bs.length c1) = .slice none 0 0 := by
          rcases ho1g.2 with ⟨h, _⟩ | ⟨g, cap, cur, h, _⟩
          · exact h
          · cases h
        have := hn1.1 hz
        cases this
  · subst eg
    rw [← hn0, ← hng]
    constructor
    · intro h
      subst h
      rcases hog.2 with ⟨h, _⟩ | ⟨g, cap, cur, h, _⟩
      · exact h
      · cases h
    · intro h
      injection h

end Go.Proofs.Qxb6601132aDoor
