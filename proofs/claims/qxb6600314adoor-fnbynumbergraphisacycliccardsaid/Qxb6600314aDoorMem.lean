/-
  Seat b6600314aD: what is read in memory while other blocks are written. By an AI agent (seat 043).
-/
import Derived.WalkKit
import Derived.WalkSpells
import Derived.WalkLawsBesides
import Derived.Handy
set_option linter.unusedSimpArgs false
set_option linter.unusedVariables false
namespace Go.Proofs.Qxb6600314aDoor
open Go.RowKit

/-- From address a on the cells hold xs; none of them lies in a block of X (blocks that are still written). -/
def Sees (w : World) (X : List Nat) (a : Option Addr) (xs : List Value) : Prop :=
  ∀ (k : Nat) (u : Value), xs[k]? = some u → ∃ b off, a = some ⟨b, off, none⟩ ∧ b ∉ X ∧ w.cell? ⟨b, off + k, none⟩ = some u

/-- All blocks that were there, but for those of X, are as they were. -/
structure Kept (X : List Nat) (w w' : World) : Prop where
  size : w.heap.size ≤ w'.heap.size
  block : ∀ k, k < w.heap.size → k ∉ X → w'.heap[k]? = w.heap[k]?

theorem Kept.refl (X : List Nat) (w : World) : Kept X w w := ⟨Nat.le_refl _, fun _ _ _ => rfl⟩
theorem Kept.trans {X : List Nat} {a b c : World} (h : Kept X a b) (k : Kept X b c) : Kept X a c :=
  ⟨Nat.le_trans h.size k.size, fun i hi hx => (k.block i (Nat.lt_of_lt_of_le hi h.size) hx).trans (h.block i hi hx)⟩
theorem Kept.mono {X Y : List Nat} {w w' : World} (h : Kept X w w') (hs : ∀ x ∈ X, x ∈ Y) : Kept Y w w' :=
  ⟨h.size, fun k hk hx => h.block k hk (fun hh => hx (hs k hh))⟩
theorem Kept.of_below {X : List Nat} {w w' : World} (h : Below w.heap.size w w') : Kept X w w' := ⟨h.size, fun k hk _ => h.block k hk⟩
theorem Kept.of_grown {X : List Nat} {w w' : World} {g : Nat} (h : w.grownBy w' (some g)) (hg : g ∈ X) : Kept X w w' :=
  ⟨h.size, fun k hk hx => h.block k hk (fun e => hx (by cases e; exact hg))⟩
theorem Kept.of_grown_none {X : List Nat} {w w' : World} (h : w.grownBy w' none) : Kept X w w' :=
  ⟨h.size, fun k hk hx => h.block k hk (fun e => by cases e)⟩
theorem Kept.setCell {X : List Nat} {w : World} {a : Addr} (ha : a.block ∈ X) (u : Value) : Kept X w (w.setCell a u) :=
  ⟨by simp [World.setCell], fun k hk hx => Below.heap_setCell _ _ _ _ (fun e => hx (by rw [e]; exact ha))⟩

theorem Sees.lt {w : World} {X : List Nat} {a : Option Addr} {xs : List Value} (h : Sees w X a xs) : ∀ (k : Nat) (u : Value), xs[k]? = some u → ∃ b off, a = some ⟨b, off, none⟩ ∧ b < w.heap.size ∧ b ∉ X ∧ w.cell? ⟨b, off + k, none⟩ = some u := by
  intro k u hk
  obtain ⟨b, off, ha, hx, hc⟩ := h k u hk
  exact ⟨b, off, ha, World.block_lt_of_cell? w _ hc, hx, hc⟩

theorem Sees.kept {w w' : World} {X : List Nat} {a : Option Addr} {xs : List Value} (h : Sees w X a xs) (hk : Kept X w w') : Sees w' X a xs := by
  intro k u hu
  obtain ⟨b, off, ha, hlt, hx, hc⟩ := h.lt k u hu
  exact ⟨b, off, ha, hx, (World.cell?_of_block (hk.block b hlt hx)).trans hc⟩
theorem Sees.below {w w' : World} {X : List Nat} {a : Option Addr} {xs : List Value} (h : Sees w X a xs) (hb : Below w.heap.size w w') : Sees w' X a xs := h.kept (Kept.of_below hb)
theorem Sees.fewer {w : World} {X Y : List Nat} {a : Option Addr} {xs : List Value} (h : Sees w X a xs) (hs : ∀ x ∈ Y, x ∈ X) : Sees w Y a xs := by
  intro k u hu
  obtain ⟨b, off, ha, hx, hc⟩ := h k u hu
  exact ⟨b, off, ha, fun hh => hx (hs b hh), hc⟩
/-- A block that is not there yet is met by no reading. -/
theorem Sees.more {w : World} {X : List Nat} {a : Option Addr} {xs : List Value} (h : Sees w X a xs) {g : Nat} (hg : w.heap.size ≤ g) : Sees w (g :: X) a xs := by
  intro k u hu
  obtain ⟨b, off, ha, hlt, hx, hc⟩ := h.lt k u hu
  exact ⟨b, off, ha, by simp; exact ⟨by omega, hx⟩, hc⟩
theorem Sees.nil (w : World) (X : List Nat) (a : Option Addr) : Sees w X a [] := fun k u h => by simp at h

/-- What is owned is seen. -/
theorem Sees.of_owns {w : World} {base : Nat} {e : TypeId} {v : Value} {n : Nat} {xs : List Value} {X : List Nat} (h : w.ownsRow base e 1 v n xs) (hX : ∀ k, v.ownBlock = some k → k ∉ X) :
    ∃ a cap, v = .slice a n cap ∧ n ≤ cap ∧ Sees w X a xs := by
  have hl := h.1
  rcases h.2 with ⟨rfl, hn⟩ | ⟨g, cap, cur, rfl, hb, hg, hnc, hcm, hcs, htake⟩
  · subst hn
    refine ⟨none, 0, rfl, Nat.le_refl _, ?_⟩
    have : xs = [] := List.eq_nil_of_length_eq_zero (by simpa using hl)
    subst this
    exact Sees.nil _ _ _
  · refine ⟨_, cap, rfl, hnc, fun k u hu => ⟨g, 0, rfl, hX g rfl, ?_⟩⟩
    have hk : k < n * 1 := by
      rw [← hl]
      exact (List.getElem?_eq_some_iff.1 hu).1
    rw [Nat.zero_add, h.cellAt k hk]
    exact hu

def ints (zs : List Nat) : List Value := zs.map fun (z : Nat) => Value.int .i64 (z : Int)

theorem ints_get {zs : List Nat} {k z : Nat} (h : zs[k]? = some z) : (ints zs)[k]? = some (.int .i64 (z : Int)) := by simp [ints, h]
theorem ints_len (zs : List Nat) : (ints zs).length = zs.length := by simp [ints]

/-- A cut of a slice. -/
theorem Sees.sub {w : World} {X : List Nat} {b off : Nat} {xs : List Value} (h : Sees w X (some ⟨b, off, none⟩) xs) (i j : Nat) : Sees w X (some ⟨b, off + i, none⟩) ((xs.drop i).take j) := by
  intro k u hu
  have hu' : xs[i + k]? = some u := by
    rw [List.getElem?_take] at hu
    split at hu
    · rwa [List.getElem?_drop] at hu
    · cases hu
  obtain ⟨b', off', ha, hx, hc⟩ := h (i + k) u hu'
  cases ha
  exact ⟨b, off + i, rfl, hx, by rw [Nat.add_assoc]; exact hc⟩
theorem Sees.take {w : World} {X : List Nat} {a : Option Addr} {xs : List Value} (h : Sees w X a xs) (j : Nat) : Sees w X a (xs.take j) := by
  intro k u hu
  rw [List.getElem?_take] at hu
  split at hu
  · exact h k u hu
  · cases hu

/-- The cells of a row of slices, each of which reads as the numbers that are told. -/
def RowsSee (w : World) (X : List Nat) (xs : List Value) (R : List (List Nat)) : Prop :=
  xs.length = R.length ∧ ∀ (k : Nat) (zs : List Nat), R[k]? = some zs → ∃ a cap, xs[k]? = some (.slice a zs.length cap) ∧ zs.length ≤ cap ∧ Sees w X a (ints zs)

theorem RowsSee.kept {w w' : World} {X : List Nat} {xs : List Value} {R : List (List Nat)} (h : RowsSee w X xs R) (hk : Kept X w w') : RowsSee w' X xs R :=
  ⟨h.1, fun k zs hz => by
    obtain ⟨a, cap, h1, h2, h3⟩ := h.2 k zs hz
    exact ⟨a, cap, h1, h2, h3.kept hk⟩⟩
theorem RowsSee.below {w w' : World} {X : List Nat} {xs : List Value} {R : List (List Nat)} (h : RowsSee w X xs R) (hb : Below w.heap.size w w') : RowsSee w' X xs R := h.kept (Kept.of_below hb)
theorem RowsSee.more {w : World} {X : List Nat} {xs : List Value} {R : List (List Nat)} (h : RowsSee w X xs R) {g : Nat} (hg : w.heap.size ≤ g) : RowsSee w (g :: X) xs R :=
  ⟨h.1, fun k zs hz => by
    obtain ⟨a, cap, h1, h2, h3⟩ := h.2 k zs hz
    exact ⟨a, cap, h1, h2, h3.more hg⟩⟩
theorem RowsSee.fewer {w : World} {X Y : List Nat} {xs : List Value} {R : List (List Nat)} (h : RowsSee w X xs R) (hs : ∀ x ∈ Y, x ∈ X) : RowsSee w Y xs R :=
  ⟨h.1, fun k zs hz => by
    obtain ⟨a, cap, h1, h2, h3⟩ := h.2 k zs hz
    exact ⟨a, cap, h1, h2, h3.fewer hs⟩⟩
theorem RowsSee.nil (w : World) (X : List Nat) : RowsSee w X [] [] := ⟨rfl, fun k zs h => by simp at h⟩
theorem RowsSee.snoc {w : World} {X : List Nat} {xs : List Value} {R : List (List Nat)} (h : RowsSee w X xs R) {zs : List Nat} {a : Option Addr} {cap : Nat} (hc : zs.length ≤ cap) (hs : Sees w X a (ints zs)) :
    RowsSee w X (xs ++ [.slice a zs.length cap]) (R ++ [zs]) := by
  refine ⟨by simp [h.1], fun k ys hy => ?_⟩
  rcases Nat.lt_or_ge k R.length with hk | hk
  · rw [List.getElem?_append_left hk] at hy
    obtain ⟨a', cap', h1, h2, h3⟩ := h.2 k ys hy
    exact ⟨a', cap', by rw [List.getElem?_append_left (by rw [h.1]; exact hk)]; exact h1, h2, h3⟩
  · rw [List.getElem?_append_right hk] at hy
    have hk0 : k = R.length := by
      rcases Nat.eq_or_lt_of_le hk with e | e
      · exact e.symm
      · rw [List.getElem?_eq_none (by simp; omega)] at hy; cases hy
    subst hk0
    simp at hy
    subst hy
    exact ⟨a, cap, by rw [List.getElem?_append_right (by rw [h.1]; exact Nat.le_refl _), h.1]; simp, hc, hs⟩
theorem RowsSee.set {w : World} {X : List Nat} {xs : List Value} {R : List (List Nat)} (h : RowsSee w X xs R) (i : Nat) {zs : List Nat} {a : Option Addr} {cap : Nat} (hc : zs.length ≤ cap) (hs : Sees w X a (ints zs)) :
    RowsSee w X (xs.set i (.slice a zs.length cap)) (R.set i zs) := by
  refine ⟨by simp [h.1], fun k ys hy => ?_⟩
  rw [List.getElem?_set] at hy
  split at hy
  · rename_i e
    subst e
    split at hy
    · rename_i hl
      cases hy
      exact ⟨a, cap, by rw [List.getElem?_set, if_pos rfl, if_pos (by rw [h.1]; exact hl)], hc, hs⟩
    · cases hy
  · rename_i e
    obtain ⟨a', cap', h1, h2, h3⟩ := h.2 k ys hy
    exact ⟨a', cap', by rw [List.getElem?_set, if_neg e]; exact h1, h2, h3⟩

/-! More on what is kept -/
theorem Kept.more {X : List Nat} {w w' : World} (h : Kept X w w') (Y : List Nat) : Kept (X ++ Y) w w' := h.mono (fun x hx => by simp [hx])
theorem grown_of_below {w w' : World} (h : Below w.heap.size w w') : w.grownBy w' none := ⟨h.os, h.tape, h.output, h.size, fun k hk _ => h.block k hk⟩
theorem owns_later {w w' : World} {base : Nat} {e : TypeId} {size : Nat} {v : Value} {n : Nat} {xs : List Value} (h : w.ownsRow base e size v n xs) (hb : Below w.heap.size w w') : w'.ownsRow base e size v n xs :=
  h.kept (grown_of_below hb) (by cases hv : v.ownBlock <;> simp)
theorem owns_kept {w w' : World} {base : Nat} {e : TypeId} {size : Nat} {v : Value} {n : Nat} {xs : List Value} {X : List Nat} (h : w.ownsRow base e size v n xs) (hk : Kept X w w') (hv : ∀ k, v.ownBlock = some k → k ∉ X) : w'.ownsRow base e size v n xs := by
  refine ⟨h.1, ?_⟩
  rcases h.2 with hn | ⟨g, cap, cur, rfl, hb, hgg, rest⟩
  · exact .inl hn
  · refine .inr ⟨g, cap, cur, rfl, hb, ?_, rest⟩
    rw [hk.block g (Array.getElem?_eq_some_iff.1 hgg).1 (hv g rfl)]
    exact hgg
theorem below_step {a b c : World} (h : Below a.heap.size a b) (k : Below b.heap.size b c) : Below a.heap.size a c := h.trans (k.mono h.size)
theorem cell_later' {w wx : World} {a : Addr} {v : Value} (hb : Below w.heap.size w wx) (h : w.cell? a = some v) : wx.cell? a = some v := cell_later hb h

/-- What was seen aside from X, is seen aside from X and whatever has been made since. -/
theorem Sees.over {w w' : World} {X E : List Nat} {a : Option Addr} {xs : List Value} (h : Sees w X a xs) (hk : Kept X w w') (hE : ∀ e ∈ E, w.heap.size ≤ e) : Sees w' (X ++ E) a xs := by
  intro k u hu
  obtain ⟨b, off, ha, hlt, hx, hc⟩ := h.lt k u hu
  refine ⟨b, off, ha, ?_, (World.cell?_of_block (hk.block b hlt hx)).trans hc⟩
  simp only [List.mem_append, not_or]
  exact ⟨hx, fun hb => by have := hE b hb; omega⟩
theorem RowsSee.over {w w' : World} {X E : List Nat} {xs : List Value} {R : List (List Nat)} (h : RowsSee w X xs R) (hk : Kept X w w') (hE : ∀ e ∈ E, w.heap.size ≤ e) : RowsSee w' (X ++ E) xs R :=
  ⟨h.1, fun k zs hz => by
    obtain ⟨a, cap, h1, h2, h3⟩ := h.2 k zs hz
    exact ⟨a, cap, h1, h2, h3.over hk hE⟩⟩

/-- A row of n slices at the head of block D, its slices reading as deps. -/
def Deps (D n : Nat) (X : List Nat) (w : World) (deps : List (List Nat)) : Prop :=
  ∃ xs, w.ownsRow D 35 1 (.slice (some ⟨D, 0, none⟩) n n) n xs ∧ RowsSee w X xs deps
theorem Deps.len {D n : Nat} {X : List Nat} {w : World} {deps : List (List Nat)} (h : Deps D n X w deps) : deps.length = n := by
  obtain ⟨xs, h1, h2⟩ := h
  rw [← h2.1, h1.1, Nat.mul_one]
theorem Deps.below {D n : Nat} {X : List Nat} {w w' : World} {deps : List (List Nat)} (h : Deps D n X w deps) (hb : Below w.heap.size w w') : Deps D n X w' deps := by
  obtain ⟨xs, h1, h2⟩ := h
  exact ⟨xs, owns_later h1 hb, h2.below hb⟩
theorem Deps.fewer {D n : Nat} {X Y : List Nat} {w : World} {deps : List (List Nat)} (h : Deps D n X w deps) (hs : ∀ x ∈ Y, x ∈ X) : Deps D n Y w deps := by
  obtain ⟨xs, h1, h2⟩ := h
  exact ⟨xs, h1, h2.fewer hs⟩
/-- Behind a step that writes to blocks of Y (not D; all in X, or made since). -/
theorem Deps.over {D n : Nat} {X E : List Nat} {w w' : World} {deps : List (List Nat)} {Y : List Nat} (h : Deps D n X w deps) (hk : Kept Y w w') (hY : ∀ y ∈ Y, y ∈ X) (hD : D ∉ Y) (hE : ∀ e ∈ E, w.heap.size ≤ e) : Deps D n (X ++ E) w' deps := by
  obtain ⟨xs, h1, h2⟩ := h
  exact ⟨xs, owns_kept h1 hk (fun k hh => by simp [Value.ownBlock] at hh; subst hh; exact hD), h2.over (hk.mono hY) hE⟩
/-- A store into it. -/
theorem Deps.store {D n : Nat} {X : List Nat} {w : World} {deps : List (List Nat)} (h : Deps D n X w deps) (hD : D ∈ X) (i : Nat) {zs : List Nat} {a : Option Addr} {cap : Nat} (hc : zs.length ≤ cap) (hs : Sees w X a (ints zs)) :
    Deps D n X (w.setCell ⟨D, i, none⟩ (.slice a zs.length cap)) (deps.set i zs) := by
  obtain ⟨xs, h1, h2⟩ := h
  have hk : Kept X w (w.setCell ⟨D, i, none⟩ (.slice a zs.length cap)) := Kept.setCell hD _
  exact ⟨_, (h1.stored i _).1, (h2.kept hk).set i hc (hs.kept hk)⟩
theorem Deps.free {D n : Nat} {X : List Nat} {w : World} {deps : List (List Nat)} (h : Deps D n X w deps) (i : Nat) : w.frozen? ⟨D, i, none⟩ = false := by
  obtain ⟨xs, h1, h2⟩ := h
  exact h1.frozenAt i
theorem Deps.there {D n : Nat} {X : List Nat} {w : World} {deps : List (List Nat)} (h : Deps D n X w deps) (i : Nat) (hi : i < n) : ∃ u, w.cell? ⟨D, i, none⟩ = some u := by
  obtain ⟨xs, h1, h2⟩ := h
  exact ⟨xs[i]'(by rw [h1.1]; omega), by rw [h1.cellAt i (by omega)]; simp [h1.1, hi]⟩
theorem Deps.lt {D n : Nat} {X : List Nat} {w : World} {deps : List (List Nat)} (h : Deps D n X w deps) : D < w.heap.size := by
  obtain ⟨xs, h1, h2⟩ := h
  exact (h1.lt D rfl).2

/-- A step that writes only to blocks made since. -/
theorem Kept.skip {X E : List Nat} {a b c : World} (h : Kept X a b) (k : Kept E b c) (hE : ∀ e ∈ E, a.heap.size ≤ e) : Kept X a c :=
  ⟨Nat.le_trans h.size k.size, fun i hi hx => (k.block i (Nat.lt_of_lt_of_le hi h.size) (fun hh => by have := hE i hh; omega)).trans (h.block i hi hx)⟩
theorem ints_one (zs : List Nat) : ∀ u ∈ ints zs, u.oneCell' = true := by
  intro u hu
  simp only [ints, List.mem_map] at hu
  obtain ⟨z, _, rfl⟩ := hu
  rfl
theorem ints_append (a b : List Nat) : ints (a ++ b) = ints a ++ ints b := by simp [ints]
theorem addr_add (b o j : Nat) : (⟨b, o, none⟩ : Addr).add j = ⟨b, o + j, none⟩ := by unfold Addr.add; split <;> simp_all

end Go.Proofs.Qxb6600314aDoor
