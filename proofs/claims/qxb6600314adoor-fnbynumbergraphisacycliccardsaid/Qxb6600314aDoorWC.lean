/-
  Seat b6600314aD: byNumberModel: the last two loops' relations. By an AI agent (seat 043).
-/
import Derived.Test.Qxb6600314aDoorWA
set_option linter.unusedSimpArgs false
set_option linter.unusedVariables false
namespace Go.Proofs.Qxb6600314aDoor
open Go.RowKit

def fillL (R : List (List Nat)) (n k : Nat) : List (List Nat) := R.take k ++ List.replicate (n - k) []
theorem fillL_zero (R : List (List Nat)) (n : Nat) : fillL R n 0 = List.replicate n [] := by simp [fillL]
theorem fillL_full (R : List (List Nat)) (n : Nat) (h : R.length = n) : fillL R n n = R := by
  rw [fillL, List.take_of_length_le (by omega), Nat.sub_self]
  simp
theorem fillL_set (R : List (List Nat)) (u : List Nat) (n k : Nat) (h : R.length = n) (hu : R[k]? = some u) : (fillL R n k).set k u = fillL R n (k + 1) := by
  obtain ⟨hk, hu⟩ := List.getElem?_eq_some_iff.1 hu
  unfold fillL
  have hl : (R.take k).length = k := by simp; omega
  rw [List.set_append_right _ _ (by omega), hl, Nat.sub_self]
  obtain ⟨m, hm⟩ : ∃ m, n - k = m + 1 := ⟨n - k - 1, by omega⟩
  have hm' : n - (k + 1) = m := by omega
  rw [hm, hm', List.replicate_succ, List.set_cons_zero, List.take_succ_eq_append_getElem hk, hu]
  simp
theorem model_len (pr tr gr : Nat → Nat) (n : Nat) : (modelOf pr tr gr n).length = n := by simp [modelOf]
theorem model_get (pr tr gr : Nat → Nat) (n k : Nat) (h : k < n) : (modelOf pr tr gr n)[k]? = some (wantOf pr tr gr n k) := by simp [modelOf, h]

/-- The loop over i. -/
def M4 (W n : Nat) (pr tr gr : Nat → Nat) (w w6 : World) (i : Value) (wr : World) : Prop :=
  ∃ k : Nat, k ≤ n ∧ i = .int .i64 (k : Int) ∧ Deps W n [W] wr (fillL (modelOf pr tr gr n) n k) ∧ Kept [W] w6 wr ∧ Below w.heap.size w wr
/-- The loop over j. -/
def M5 (W n : Nat) (p : Nat → Bool) (deps : List (List Nat)) (w wI : World) (v j : Value) (wr : World) : Prop :=
  ∃ (q : Nat) (E : List Nat), q ≤ n ∧ j = .int .i64 (q : Int) ∧ (∀ e ∈ E, wI.heap.size ≤ e ∧ e < wr.heap.size) ∧ Deps W n ([W] ++ E) wr deps ∧
    wr.ownsRow wI.heap.size 3 1 v ((List.range q).filter p).length (ints ((List.range q).filter p)) ∧ (∀ e, v.ownBlock = some e → e ∈ E) ∧ Kept [] wI wr ∧ Below w.heap.size w wr

theorem m5_skip {W n q : Nat} {p : Nat → Bool} {deps : List (List Nat)} {w wI wr : World} {v : Value} {E : List Nat} (hq : q < n) (hp : p q = false) (hE : ∀ e ∈ E, wI.heap.size ≤ e ∧ e < wr.heap.size) (hd : Deps W n ([W] ++ E) wr deps)
    (ho : wr.ownsRow wI.heap.size 3 1 v ((List.range q).filter p).length (ints ((List.range q).filter p))) (hv : ∀ e, v.ownBlock = some e → e ∈ E) (hk : Kept [] wI wr) (hb : Below w.heap.size w wr) (nn : Nat) :
    M5 W n p deps w wI v (.int .i64 ((q : Int) + 1)) (wr.drewN nn) := by
  have hf : (List.range (q + 1)).filter p = (List.range q).filter p := by rw [filter_range_succ, hp]; simp
  refine ⟨q + 1, E, by omega, rfl, hE, hd, ?_, hv, ⟨hk.size, hk.block⟩, below_drewN hb nn⟩
  rw [hf]
  exact ho
theorem m5_app {W n q : Nat} {p : Nat → Bool} {deps : List (List Nat)} {w wI wr : World} {v : Value} {E : List Nat} (hq : q < n) (hp : p q = true) (hE : ∀ e ∈ E, wI.heap.size ≤ e ∧ e < wr.heap.size) (hd : Deps W n ([W] ++ E) wr deps)
    (ho : wr.ownsRow wI.heap.size 3 1 v ((List.range q).filter p).length (ints ((List.range q).filter p))) (hv : ∀ e, v.ownBlock = some e → e ∈ E) (hk : Kept [] wI wr) (hb : Below w.heap.size w wr) (hWI : W < wI.heap.size) (hwI : w.heap.size ≤ wI.heap.size)
    (nn : Nat) (o : Obj) (v' : Value) (w6 : World) (ho' : w6.ownsRow wI.heap.size 3 1 v' (((List.range q).filter p).length + 1) (ints ((List.range q).filter p) ++ [.int .i64 (q : Int)]))
    (hg : ((wr.drewN nn).alloc o).grownBy w6 v.ownBlock) (hat : v'.ownBlock = v.ownBlock ∨ v'.ownBlock = some (wr.heap.size + 1)) :
    M5 W n p deps w wI v' (.int .i64 ((q : Int) + 1)) w6 := by
  have hf : (List.range (q + 1)).filter p = (List.range q).filter p ++ [q] := by rw [filter_range_succ, hp]; simp
  have hX : Below wr.heap.size wr ((wr.drewN nn).alloc o) := (below_drewN (Below.refl _ _) nn).alloc (Nat.le_refl _) o
  have hXs : ((wr.drewN nn).alloc o).heap.size = wr.heap.size + 1 := by simp
  have hkE : Kept E ((wr.drewN nn).alloc o) w6 := by
    cases hvb : v.ownBlock with
    | none => rw [hvb] at hg; exact Kept.of_grown_none hg
    | some e => rw [hvb] at hg; exact Kept.of_grown hg (hv e hvb)
  have hEge : ∀ e ∈ E, wI.heap.size ≤ e := fun e he => (hE e he).1
  have hkept : Kept [] wI w6 := (hk.trans (Kept.of_below hX)).skip hkE hEge
  have hbel : Below w.heap.size w w6 := (below_step hb hX).grown hg (below_step hb hX).size (fun g hgg => by have := (ho.lt g hgg).1; omega)
  have hsz := hkE.size
  rw [hXs] at hsz
  have hWE : W ∉ E := fun h => by have := hEge W h; omega
  have hown : w6.ownsRow wI.heap.size 3 1 v' ((List.range (q + 1)).filter p).length (ints ((List.range (q + 1)).filter p)) := by
    rw [hf, ints_append]
    simpa [ints] using ho'
  have hdX := hd.below hX
  rcases hat with same | fresh
  · refine ⟨q + 1, E, by omega, rfl, fun e he => ⟨hEge e he, by have := (hE e he).2; omega⟩, ?_, hown, fun e he => hv e (by rw [← same]; exact he), hkept, hbel⟩
    have := hdX.over (E := []) hkE (fun y hy => by simp [hy]) hWE (by simp)
    simpa using this
  · have hlt6 : wr.heap.size + 1 < w6.heap.size := (ho'.lt _ fresh).2
    refine ⟨q + 1, E ++ [wr.heap.size + 1], by omega, rfl, ?_, ?_, hown, fun e he => ?_, hkept, hbel⟩
    · intro e he
      simp only [List.mem_append, List.mem_singleton] at he
      rcases he with he | rfl
      · exact ⟨hEge e he, by have := (hE e he).2; omega⟩
      · exact ⟨by have := hk.size; omega, hlt6⟩
    · have := hdX.over (E := [wr.heap.size + 1]) hkE (fun y hy => by simp [hy]) hWE (by simp)
      rwa [List.append_assoc] at this
    · rw [fresh] at he
      cases he
      simp

end Go.Proofs.Qxb6600314aDoor
