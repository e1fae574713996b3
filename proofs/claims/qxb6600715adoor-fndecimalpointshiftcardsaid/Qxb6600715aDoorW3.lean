/-
  Seat b6600715aD: joining, stripping bytes. By an AI agent (seat 043).
-/
import Derived.Test.Qxb6600715aDoorW2
set_option linter.unusedSimpArgs false
set_option linter.unusedVariables false
namespace Go.Proofs.Qxb6600715aDoor
open Go.RowKit

theorem BAt.source {w : World} {a : Option Addr} {bs : List UInt8} (h : BAt w a bs) (hp : 0 < (byteVals bs).length) : ∃ ad, a = some ad ∧ ∀ (j : Nat) (v : Value), (byteVals bs)[j]? = some v → w.cell? (ad.add j) = some v := by
  rw [byteVals_len] at hp
  obtain ⟨g, off, ha, _⟩ := h 0 (bs[0]) (by simp [hp])
  subst ha
  exact ⟨_, rfl, h.src⟩

theorem splice_two {α : Type} (L x y : List α) (n : Nat) (hn : x.length = n) (h : L.length = n + y.length) : splice (splice L 0 x) n y = x ++ y := by
  subst hn
  simp [splice]
  omega

set_option maxRecDepth 100000 in
set_option maxHeartbeats 1000000 in
theorem concat_any (a b : Option Addr) (n m ca cb : Nat) (xs ys : List UInt8) (w : World) (hn : xs.length = n) (hm : ys.length = m) (hmax : n ≤ 131072) (hmax2 : m ≤ 131072) (ha : BAt w a xs) (hb : BAt w b ys) :
    Calls Tryd.prog 10 #[.slice a n ca, .slice b m cb] w fun e w' => NewB w (xs ++ ys) e w' := by
  obtain ⟨i0, hi, hz0, hz1, hz2⟩ := info_parts info5
  have hwn : IntKind.i64.wrap ((n : Int) + (m : Int)) = ((n + m : Nat) : Int) := by rw [IntWalk.i64_in _ ⟨by omega, by omega⟩]; omega
  go_enter Tryd.func10, Tryd.ntmps10
  by_cases hm0 : m = 0
  · have hy : ys = [] := List.eq_nil_of_length_eq_zero (by omega)
    subst hy
    subst hm0
    simp only [List.append_nil]
    go_wp2_with (first
      | (at_make; refine wpList_make_full _ rfl _ _ 22 rfl w.heap.size 5 i0 (.int .u8 0) 1 Tryd.underlying22 hi hz0 hz1 .i64 .i64 _ _ n rfl rfl (by omega) (by omega) (by rw [hz2]; omega) (by unfold maxLen; omega) (Nat.le_refl _) ?_; intro w1 hown hgrow; have hb1 : Below w.heap.size w w1 := (Below.refl _ _).grown hgrow (Nat.le_refl _) (fun k h => by cases h); obtain ⟨hblk, hlen⟩ := made_block hown; clear hown hgrow)
      | (refine wpList_copy_splice rfl (.tmp 12) (.tmp 13) 22 22 rfl 5 Tryd.underlying22 size5 _ _ _ _ _ _ rfl rfl w.heap.size 0 _ 5 hblk (byteVals xs) (by rw [byteVals_len, hn]; exact (Nat.min_eq_left (by omega)).symm) (fun hp => ⟨rfl, BAt.source (ha.later hb1) hp⟩) (by rw [byteVals_len, hlen]; omega) (bytes_one xs) w.heap.size w hb1 (Nat.le_refl _) ?_; intro w2 hblk2 hb2)
      | (refine wpList_copy_nothing rfl (.tmp 18) (.tmp 19) 22 22 rfl 5 Tryd.underlying22 size5 _ _ _ _ _ _ rfl rfl (Nat.zero_min _) ?_))
    have hb3 := hblk2.out
    rw [splice_all _ _ (by rw [hlen, byteVals_len, hn])] at hb3
    have ho := owns_of_block (base := w.heap.size) (byteVals_len xs) (Nat.le_refl _) (by unfold maxLen; omega) hb3
    obtain ⟨a1, c1, e1, hc1, hc2, hat⟩ := BAt.of_owns ho
    cases e1
    subst hn
    go_ret
    exact ⟨_, _, rfl, hc1, hc2, hat, hb2⟩
  · go_wp2_with (first
      | (at_make; refine wpList_make_full _ rfl _ _ 22 rfl w.heap.size 5 i0 (.int .u8 0) 1 Tryd.underlying22 hi hz0 hz1 .i64 .i64 _ _ (n + m) rfl rfl (by omega) (by omega) (by rw [hz2]; omega) (by unfold maxLen; omega) (Nat.le_refl _) ?_; intro w1 hown hgrow; have hb1 : Below w.heap.size w w1 := (Below.refl _ _).grown hgrow (Nat.le_refl _) (fun k h => by cases h); obtain ⟨hblk, hlen⟩ := made_block hown; clear hown hgrow)
      | (refine wpList_copy_splice rfl (.tmp 12) (.tmp 13) 22 22 rfl 5 Tryd.underlying22 size5 _ _ _ _ _ _ rfl rfl w.heap.size 0 _ 5 hblk (byteVals xs) (by rw [byteVals_len, hn]; exact (Nat.min_eq_left (by omega)).symm) (fun hp => ⟨rfl, BAt.source (ha.later hb1) hp⟩) (by rw [byteVals_len, hlen]; omega) (bytes_one xs) w.heap.size w hb1 (Nat.le_refl _) ?_; intro w2 hblk2 hb2)
      | (refine wpList_copy_splice rfl (.tmp 18) (.tmp 19) 22 22 rfl 5 Tryd.underlying22 size5 _ _ _ _ _ _ rfl rfl w.heap.size n _ 5 hblk2.out (byteVals ys) (by rw [byteVals_len, hm]; exact (Nat.min_self _).symm) (fun hp => ⟨rfl, BAt.source (hb.later hb2) hp⟩) (by rw [length_splice _ _ _ (by rw [byteVals_len, hlen]; omega), byteVals_len, hlen]; omega) (bytes_one ys) w.heap.size w hb2 (Nat.le_refl _) ?_; intro w3 hblk3 hb3))
    have hb4 := hblk3.out
    rw [splice_two _ _ _ n (by rw [byteVals_len, hn]) (by rw [hlen, byteVals_len, hm]), ← byteVals_app] at hb4
    have hlx : (xs ++ ys).length = n + m := by simp [hn, hm]
    have ho := owns_of_block (base := w.heap.size) (byteVals_len (xs ++ ys)) (Nat.le_refl _) (by unfold maxLen; omega) hb4
    obtain ⟨a1, c1, e1, hc1, hc2, hat⟩ := BAt.of_owns ho
    cases e1
    go_ret
    exact ⟨_, _, by rw [hlx]; rfl, hc1, hc2, hat, hb3⟩

end Go.Proofs.Qxb6600715aDoor
