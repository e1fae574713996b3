/-
  Seat b6600314aD: sprintsOf, ZZbyNumber. By an AI agent (seat 043).
-/
import Derived.Test.Qxb6600314aDoorW6
import Derived.Deep.RegionHeld3
set_option linter.unusedSimpArgs false
set_option linter.unusedVariables false
namespace Go.Proofs.Qxb6600314aDoor
open Go.RowKit
attribute [local go_sem ↓] Go.wp_at_zero Go.wp_at_succ

abbrev sprTail : List Value := [.string ByteArray.empty, .int .i64 0, .string ByteArray.empty, .int .i64 0, .string ByteArray.empty, .int .i64 0, .string ByteArray.empty, .int .i64 0, .slice none 0 0, .slice none 0 0, .slice none 0 0, .slice none 0 0, .slice none 0 0, .slice none 0 0]
def sprCells (i : Id3) : List Value := [.string i.p, .string i.l, .string i.s, .string ByteArray.empty] ++ sprTail
abbrev z46 : Value := .agg #[.string ByteArray.empty, .string ByteArray.empty, .string ByteArray.empty, .string ByteArray.empty, .string ByteArray.empty, .int .i64 0, .string ByteArray.empty, .int .i64 0, .string ByteArray.empty, .int .i64 0, .string ByteArray.empty, .int .i64 0, .slice none 0 0, .slice none 0 0, .slice none 0 0, .slice none 0 0, .slice none 0 0, .slice none 0 0]
theorem info46 : (Tryd.prog.info? 46).map (fun i => (i.zero, i.size, i.bytes)) = some (some z46, 18, 304) := by kernel_rfl
theorem size46 : (Tryd.prog.info? 46).map (·.size) = some 18 := by kernel_rfl

theorem cell_off {w : World} {x : Addr} {b o : Nat} (u : Value) (h : x.block ≠ b) : (w.setCell ⟨b, o, none⟩ u).cell? x = w.cell? x := World.cell?_of_block (Below.heap_setCell _ _ _ _ h)
theorem cell_drew (w : World) (x : Addr) : w.drew.cell? x = w.cell? x := rfl

/-- The loop of sprintsOf: block S is filled up to k. -/
def SprRel (S n : Nat) (ids : List Id3) (w : World) (i : Value) (wr : World) : Prop :=
  ∃ k : Nat, k ≤ n ∧ i = .int .i64 (k : Int) ∧ (∀ (j : Nat) (id : Id3), ids[j]? = some id → j < k → wr.rangeAt S (j * 18) (sprCells id)) ∧ (∀ j, j < n → wr.there S (j * 18) 18) ∧ Below w.heap.size w wr

theorem below_setCells {B b : Nat} {a : World} (hb : B ≤ b) : ∀ (vs : List Value) (o : Nat) (w : World), Below B a w → Below B a (w.setCells b o vs)
  | [], _, _, h => h
  | v :: vs, o, w, h => below_setCells hb vs (o + 1) _ (h.setCell (p := ⟨b, o, none⟩) hb v)

theorem spr_rel_step {S n k : Nat} {ids : List Id3} {w wr : World} {id : Id3} (hlt : k < n) (hid : ids[k]? = some id) (hr : ∀ (j : Nat) (id : Id3), ids[j]? = some id → j < k → wr.rangeAt S (j * 18) (sprCells id))
    (ht : ∀ j, j < n → wr.there S (j * 18) 18) (hb : Below w.heap.size w wr) (hS : w.heap.size ≤ S) : SprRel S n ids w (.int .i64 ((k + 1 : Nat) : Int)) ((wr.setCells S (k * 18) (sprCells id)).drew) := by
  refine ⟨k + 1, by omega, rfl, fun j id' hj hjk => ?_, fun j hj => ?_, (below_setCells hS _ _ _ hb).drew⟩
  · rw [World.rangeAt_drew]
    by_cases e : j = k
    · subst e
      rw [hid] at hj
      cases hj
      exact World.rangeAt_setCells_same _ _ _ _ (ht j hlt)
    · refine World.rangeAt_setCells_apart (hr j id' hj (by omega)) _ _ _ (.inr (.inl ?_))
      show j * 18 + 18 ≤ k * 18
      omega
  · rw [World.there_drew]
    exact World.there_setCells (ht j hj) _ _ _

def SprRes (w : World) (n : Nat) (ids : List Id3) (e : Ending) (w' : World) : Prop :=
  ∃ S, e = .returned (.slice (some ⟨S, 0, none⟩) n n) ∧ SprAt w' S 0 ids ∧ Below w.heap.size w w'

set_option maxHeartbeats 2000000 in
theorem sprintsOf_any (a0 a1 a2 : Option Addr) (n k0 k1 k2 : Nat) (s0 s1 s2 : List ByteArray) (ids : List Id3) (w : World) (hn : n ≤ 1024) (h0 : s0.length = n) (h1 : s1.length = n) (h2 : s2.length = n)
    (hids : ∀ (j : Nat) (id : Id3), ids[j]? = some id → s0[j]? = some id.p ∧ s1[j]? = some id.l ∧ s2[j]? = some id.s) (hil : ids.length = n) (g0 : StrAt w a0 s0) (g1 : StrAt w a1 s1) (g2 : StrAt w a2 s2) :
    Calls Tryd.prog 10 #[.slice a0 n k0, .slice a1 n k1, .slice a2 n k2] w fun e w' => SprRes w n ids e w' := by
  obtain ⟨ti, hi, hz0, hz1, hz2⟩ := info_parts info46
  go_enter Tryd.func10, Tryd.ntmps10
  go_wp2_with (at_make; refine wpList_make_full _ rfl _ _ 28 rfl w.heap.size 46 ti z46 18 Tryd.underlying28 hi hz0 hz1 .i64 .i64 _ _ n rfl rfl rfl rfl (by rw [hz2]; omega) (by unfold maxLen; omega) (Nat.le_refl _) ?_; intro w1 hown hgrow)
  have hb1 : Below w.heap.size w w1 := (Below.refl _ _).grown hgrow (Nat.le_refl _) (fun k h => by cases h)
  have hthere : ∀ j, j < n → w1.there w.heap.size (j * 18) 18 := fun j hj i hi => by
    have hlt : j * 18 + i < n * 18 := by omega
    refine ⟨?_, hown.frozenAt _⟩
    rw [hown.cellAt _ hlt]
    have hl := hown.1
    simp [hl, hlt]
  clear hown hgrow hi hz0 hz1 hz2
  go_loopw [8] (fun i wr => SprRel w.heap.size n ids w i wr) (fun i _ => n - (intOf i).toNat)
  case atStart => exact ⟨0, Nat.zero_le _, rfl, fun j id _ h => absurd h (by omega), hthere, hb1⟩
  case round =>
    clear hthere hb1
    obtain ⟨k, hk, rfl, hrange, hthere, hbr⟩ := hrel
    by_cases hlt : k < n
    · obtain ⟨e0, e1, e2⟩ := hids k (ids[k]'(by omega)) (by simp [hil, hlt])
      have hidk : ids[k]? = some (ids[k]'(by omega)) := by simp [hil, hlt]
      generalize ids[k]'(by omega) = id at *
      obtain ⟨b0, o0, r0, hw0⟩ := g0 k _ e0
      obtain ⟨b1, o1, r1, hw1⟩ := g1 k _ e1
      obtain ⟨b2, o2, r2, hw2⟩ := g2 k _ e2
      have hc0 := cell_later hbr hw0
      have hc1 := cell_later hbr hw1
      have hc2 := cell_later hbr hw2
      have ne0 : b0 ≠ w.heap.size := Nat.ne_of_lt (World.block_lt_of_cell? w _ hw0)
      have ne1 : b1 ≠ w.heap.size := Nat.ne_of_lt (World.block_lt_of_cell? w _ hw1)
      have ne2 : b2 ≠ w.heap.size := Nat.ne_of_lt (World.block_lt_of_cell? w _ hw2)
      clear hw0 hw1 hw2
      subst r0 r1 r2
      have ht := hthere k hlt
      obtain ⟨v0, c0⟩ := Option.isSome_iff_exists.1 (ht 0 (by decide)).1
      have f0 := (ht 0 (by decide)).2
      obtain ⟨v1, c1⟩ := Option.isSome_iff_exists.1 (ht 1 (by decide)).1
      have f1 := (ht 1 (by decide)).2
      obtain ⟨v2, c2⟩ := Option.isSome_iff_exists.1 (ht 2 (by decide)).1
      have f2 := (ht 2 (by decide)).2
      obtain ⟨v3, c3⟩ := Option.isSome_iff_exists.1 (ht 3 (by decide)).1
      have f3 := (ht 3 (by decide)).2
      obtain ⟨v4, c4⟩ := Option.isSome_iff_exists.1 (ht 4 (by decide)).1
      have f4 := (ht 4 (by decide)).2
      obtain ⟨v5, c5⟩ := Option.isSome_iff_exists.1 (ht 5 (by decide)).1
      have f5 := (ht 5 (by decide)).2
      obtain ⟨v6, c6⟩ := Option.isSome_iff_exists.1 (ht 6 (by decide)).1
      have f6 := (ht 6 (by decide)).2
      obtain ⟨v7, c7⟩ := Option.isSome_iff_exists.1 (ht 7 (by decide)).1
      have f7 := (ht 7 (by decide)).2
      obtain ⟨v8, c8⟩ := Option.isSome_iff_exists.1 (ht 8 (by decide)).1
      have f8 := (ht 8 (by decide)).2
      obtain ⟨v9, c9⟩ := Option.isSome_iff_exists.1 (ht 9 (by decide)).1
      have f9 := (ht 9 (by decide)).2
      obtain ⟨v10, c10⟩ := Option.isSome_iff_exists.1 (ht 10 (by decide)).1
      have f10 := (ht 10 (by decide)).2
      obtain ⟨v11, c11⟩ := Option.isSome_iff_exists.1 (ht 11 (by decide)).1
      have f11 := (ht 11 (by decide)).2
      obtain ⟨v12, c12⟩ := Option.isSome_iff_exists.1 (ht 12 (by decide)).1
      have f12 := (ht 12 (by decide)).2
      obtain ⟨v13, c13⟩ := Option.isSome_iff_exists.1 (ht 13 (by decide)).1
      have f13 := (ht 13 (by decide)).2
      obtain ⟨v14, c14⟩ := Option.isSome_iff_exists.1 (ht 14 (by decide)).1
      have f14 := (ht 14 (by decide)).2
      obtain ⟨v15, c15⟩ := Option.isSome_iff_exists.1 (ht 15 (by decide)).1
      have f15 := (ht 15 (by decide)).2
      obtain ⟨v16, c16⟩ := Option.isSome_iff_exists.1 (ht 16 (by decide)).1
      have f16 := (ht 16 (by decide)).2
      obtain ⟨v17, c17⟩ := Option.isSome_iff_exists.1 (ht 17 (by decide)).1
      have f17 := (ht 17 (by decide)).2
      rw [Nat.add_zero] at c0 f0
      have i0 : (0 : Int) ≤ (k : Int) := by omega
      have i1 : (k : Int) < (n : Int) := by omega
      have HR : Hid _ := hrange
      have HT : Hid _ := hthere
      clear hrange hthere g0 g1 g2 hids
      go_wp2
      go_region_held3 (fun w' => w'.cell? ⟨b0, o0 + k, none⟩ = some (.string id.p) ∧ w'.cell? ⟨b1, o1 + k, none⟩ = some (.string id.l) ∧ w'.cell? ⟨b2, o2 + k, none⟩ = some (.string id.s)) (((try go_split_ands); refine ⟨?_, ?_, ?_⟩ <;> first | (simp (disch := assumption) only [cell_drew, cell_off]; assumption) | (go_keep; done))) (fail)
      have hfin := spr_rel_step hlt hidk HR.out HT.out hbr (Nat.le_refl _)
      have HFIN : Hid _ := hfin
      clear hfin HR HT c0 c1 c2 c3 c4 c5 c6 c7 c8 c9 c10 c11 c12 c13 c14 c15 c16 c17 f0 f1 f2 f3 f4 f5 f6 f7 f8 f9 f10 f11 f12 f13 f14 f15 f16 f17
      go_wp2
      go_roundw
      case rel => exact HFIN.out
      case measure => simp [intOf]; omega
    · have hkn : k = n := by omega
      subst hkn
      have hfin : SprRes w k ids (.returned (.slice (some ⟨w.heap.size, 0, none⟩) k k)) wr := by
        refine ⟨w.heap.size, rfl, fun j id hj => ?_, hbr⟩
        have hjl : j < k := by rw [← hil]; exact (List.getElem?_eq_some_iff.1 hj).1
        have hr := hrange j id hj hjl
        rw [Nat.zero_add]
        exact ⟨by simpa using hr 0 _ rfl, hr 1 _ rfl, hr 2 _ rfl, hr 3 _ rfl⟩
      have HFIN : Hid _ := hfin
      clear hfin hrange hthere
      go_wp2
      go_ret
      exact HFIN.out

end Go.Proofs.Qxb6600314aDoor
