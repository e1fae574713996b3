/-
  Seat b6600715aD: cloning, joining, stripping bytes. By an AI agent (seat 043).
-/
import Derived.Test.Qxb6600715aDoorW1
set_option linter.unusedSimpArgs false
set_option linter.unusedVariables false
namespace Go.Proofs.Qxb6600715aDoor
open Go.RowKit

theorem info5 : (Tryd.prog.info? 5).map (fun i => (i.zero, i.size, i.bytes)) = some (some (.int .u8 0), 1, 1) := by kernel_rfl
theorem size5 : (Tryd.prog.info? 5).map (·.size) = some 1 := by kernel_rfl

/-- A new slice of bytes; nothing old has turned. -/
def NewB (w : World) (bs : List UInt8) (x : Ending) (w' : World) : Prop :=
  ∃ a cap, x = .returned (.slice a bs.length cap) ∧ bs.length ≤ cap ∧ cap ≤ 9223372036854775807 ∧ BAt w' a bs ∧ Below w.heap.size w w'
/-- The same, nil where and only where the old one was. -/
def CloneB (w : World) (isNil : Bool) (bs : List UInt8) (x : Ending) (w' : World) : Prop :=
  ∃ a cap, x = .returned (.slice a bs.length cap) ∧ bs.length ≤ cap ∧ cap ≤ 9223372036854775807 ∧ a.isNone = isNil ∧ (a = none → bs.length = 0 ∧ cap = 0) ∧ BAt w' a bs ∧ Below w.heap.size w w'

theorem byteVals_get {bs : List UInt8} {k : Nat} {b : UInt8} (h : bs[k]? = some b) : (byteVals bs)[k]? = some (.int .u8 (b.toNat : Int)) := by simp [byteVals, h]
theorem BAt.of_owns {w : World} {base : Nat} {v : Value} {bs : List UInt8} (h : w.ownsRow base 5 1 v bs.length (byteVals bs)) : ∃ a cap, v = .slice a bs.length cap ∧ bs.length ≤ cap ∧ cap ≤ 9223372036854775807 ∧ BAt w a bs := by
  rcases h.2 with ⟨rfl, h0⟩ | ⟨g, cap, cur, rfl, hb, hg, hnc, hcm, hcs, htake⟩
  · have hb : bs = [] := List.eq_nil_of_length_eq_zero h0
    subst hb
    exact ⟨none, 0, rfl, Nat.le_refl _, by omega, BAt.nil _ _⟩
  · refine ⟨_, cap, rfl, hnc, hcm, fun k b hk => ⟨g, 0, rfl, ?_⟩⟩
    have hl := (List.getElem?_eq_some_iff.1 hk).1
    rw [Nat.zero_add, h.cellAt k (by omega)]
    exact byteVals_get hk
theorem owns_of_block {w : World} {base g n : Nat} {xs : List Value} (hl : xs.length = n) (hb : base ≤ g) (hm : n ≤ maxLen) (h : w.heap[g]? = some (.cells xs.toArray 5 (0, 0))) : w.ownsRow base 5 1 (.slice (some ⟨g, 0, none⟩) n n) n xs :=
  ⟨by omega, .inr ⟨g, n, xs.toArray, rfl, hb, h, Nat.le_refl _, hm, by simp [hl], by simp [← hl]⟩⟩
theorem made_block {w : World} {base g n : Nat} {xs : List Value} (h : w.ownsRow base 5 1 (.slice (some ⟨g, 0, none⟩) n n) n xs) : w.heap[g]? = some (.cells xs.toArray 5 (0, 0)) ∧ xs.length = n := by
  refine ⟨?_, by have := h.1; omega⟩
  rcases h.2 with ⟨h', _⟩ | ⟨g', cap, cur, h', hb, hg, hnc, hcm, hcs, htake⟩
  · simp at h'
  · simp only [Value.slice.injEq, Option.some.injEq, Addr.mk.injEq, and_true, true_and] at h'
    obtain ⟨rfl, rfl⟩ := h'
    rw [hg, ← htake]
    have e : cur.toList.take (n * 1) = cur.toList := List.take_of_length_le (by simp; omega)
    rw [e]
theorem splice_all {α : Type} (L cs : List α) (h : L.length = cs.length) : splice L 0 cs = cs := by
  simp [splice, h]
/-- The source of a copy. -/
theorem BAt.src {w : World} {ad : Addr} {bs : List UInt8} (h : BAt w (some ad) bs) : ∀ (j : Nat) (v : Value), (byteVals bs)[j]? = some v → w.cell? (ad.add j) = some v := by
  intro j v hv
  have hj := (List.getElem?_eq_some_iff.1 hv).1
  rw [byteVals_len] at hj
  have hb : bs[j]? = some (bs[j]) := by simp [hj]
  rw [byteVals_get hb] at hv
  cases hv
  obtain ⟨g, off, ha, hc⟩ := h j _ hb
  cases ha
  have e : (⟨g, off, none⟩ : Addr).add j = ⟨g, off + j, none⟩ := by
    unfold Addr.add
    split
    · rename_i h0; simp [h0]
    · rfl
  rw [e]
  exact hc
theorem bytes_one (bs : List UInt8) : ∀ v ∈ byteVals bs, v.oneCell' = true := by
  intro v hv
  simp only [byteVals, List.mem_map] at hv
  obtain ⟨b, _, rfl⟩ := hv
  rfl

set_option maxRecDepth 100000 in
set_option maxHeartbeats 400000 in
theorem clone_any (a : Option Addr) (n cap : Nat) (bs : List UInt8) (w : World) (hn : bs.length = n) (hmax : n ≤ 131072) (hnil : a = none → n = 0) (hs : BAt w a bs) :
    Calls Tryd.prog 8 #[.slice a n cap] w fun e w' => CloneB w a.isNone bs e w' := by
  have q22 : ∀ (w : World) (a : Option Addr) (n c n' c' : Nat), (binOp .eql 22 (.slice a n c) (.slice none n' c')).run Tryd.prog w = .ok (.bool a.isNone) w := fun w a n c n' c' => Lib.run_eql_slice_nil w _ _ a n c n' c' Tryd.underlying22
  obtain ⟨i0, hi, hz0, hz1, hz2⟩ := info_parts info5
  cases a with
  | none =>
    have h0 := hnil rfl
    subst h0
    have hss : bs = [] := List.eq_nil_of_length_eq_zero hn
    subst hss
    go_enter Tryd.func8, Tryd.ntmps8
    go_wp2
    go_ret
    exact ⟨none, 0, rfl, Nat.le_refl _, by omega, rfl, fun _ => ⟨rfl, rfl⟩, hs, Below.refl _ _⟩
  | some ad =>
    subst hn
    go_enter Tryd.func8, Tryd.ntmps8
    have hmin : (byteVals bs).length = Nat.min bs.length bs.length := by rw [byteVals_len]; exact (Nat.min_self _).symm
    go_wp2_with (first
      | (at_make; refine wpList_make_full _ rfl _ _ 22 rfl w.heap.size 5 i0 (.int .u8 0) 1 Tryd.underlying22 hi hz0 hz1 .i64 .i64 _ _ bs.length rfl rfl rfl rfl (by rw [hz2]; omega) (by unfold maxLen; omega) (Nat.le_refl _) ?_; intro w1 hown hgrow; have hb1 : Below w.heap.size w w1 := (Below.refl _ _).grown hgrow (Nat.le_refl _) (fun k h => by cases h); obtain ⟨hblk, hlen⟩ := made_block hown; clear hown hgrow)
      | (refine wpList_copy_splice rfl (.tmp 9) (.tmp 10) 22 22 rfl 5 Tryd.underlying22 size5 _ _ _ _ _ _ rfl rfl w.heap.size 0 _ 5 hblk (byteVals bs) hmin (fun _ => ⟨rfl, _, rfl, BAt.src (hs.later hb1)⟩) (by rw [byteVals_len, hlen]; omega) (bytes_one bs) w.heap.size w hb1 (Nat.le_refl _) ?_; intro w2 hblk2 hb2))
    have hb3 := hblk2.out
    rw [splice_all _ _ (by rw [hlen, byteVals_len])] at hb3
    have ho := owns_of_block (base := w.heap.size) (byteVals_len bs) (Nat.le_refl _) (by unfold maxLen; omega) hb3
    obtain ⟨a1, c1, e1, hc1, hc2, hat⟩ := BAt.of_owns ho
    cases e1
    have HFIN : Hid (CloneB w false bs (.returned (.slice (some ⟨w.heap.size, 0, none⟩) bs.length bs.length)) w2) := ⟨_, _, rfl, hc1, hc2, rfl, (fun h => nomatch h), hat, hb2⟩
    clear hat ho hb3 hblk hblk2 hb1 hb2 hs
    go_wp2
    go_ret
    exact HFIN.out

end Go.Proofs.Qxb6600715aDoor
