/-
  Seat b6600314aD: the bridge from keys to marks. By an AI agent (seat 043).
-/
import Derived.Test.Qxb6600314aDoorWC
import Derived.Test.Qxb6600314aDoorPl4
set_option linter.unusedSimpArgs false
set_option linter.unusedVariables false
namespace Go.Proofs.Qxb6600314aDoor
open Go.RowKit

theorem drop_head (c : UInt8) : ∀ (l : List UInt8) (x : UInt8) (r : List UInt8), l.dropWhile (· == c) = x :: r → x ≠ c
  | [], x, r, h => by simp at h
  | y :: l, x, r, h => by
    rw [List.dropWhile_cons] at h
    split at h
    · exact drop_head c l x r h
    · rename_i hy
      cases h
      simpa using hy
theorem canon_list (a : ByteArray) : (canon a).toList = if tailOf a = [] then [48] else tailOf a := by
  unfold canon
  show (ite (tailOf a = []) _ _ : ByteArray).toList = _
  split
  · rw [ByteArray.toList_eq]
  · rw [ByteArray.toList_eq]; rfl
theorem canon_iff (a b : ByteArray) : (canon a).toList = (canon b).toList ↔ tailOf a = tailOf b := by
  rw [canon_list, canon_list]
  have hd : ∀ s : ByteArray, tailOf s ≠ [48] := fun s h => drop_head 48 _ 48 [] h rfl
  by_cases ha : tailOf a = [] <;> by_cases hb : tailOf b = []
  · simp [ha, hb]
  · simp only [ha, hb, if_true, if_false]
    constructor
    · intro h; exact absurd h.symm (hd b)
    · intro h; exact absurd h.symm hb
  · rw [if_neg ha, if_pos hb, hb]
    constructor
    · intro h; exact absurd h (hd a)
    · intro h; exact absurd h ha
  · simp [ha, hb]

theorem get_some {l : List ByteArray} {i : Nat} {e : ByteArray} (h : i < l.length) : l[i]? = some (l.getD i e) := by
  rw [List.getD_eq_getElem?_getD, List.getElem?_eq_getElem h]; rfl

/-- The ids of three lists of one length. -/
def idsOf (s0 s1 s2 : List ByteArray) (n : Nat) : List Id3 := (List.range n).map fun i => ⟨s0.getD i ByteArray.empty, s1.getD i ByteArray.empty, s2.getD i ByteArray.empty⟩
theorem ids_len (s0 s1 s2 : List ByteArray) (n : Nat) : (idsOf s0 s1 s2 n).length = n := by simp [idsOf]
theorem ids_get (s0 s1 s2 : List ByteArray) (n i : Nat) (h : i < n) : (idsOf s0 s1 s2 n)[i]? = some ⟨s0.getD i ByteArray.empty, s1.getD i ByteArray.empty, s2.getD i ByteArray.empty⟩ := by simp [idsOf, h]

theorem marks (s0 s1 s2 : List ByteArray) (n : Nat) :
    Marks n (keyAt (fun i => canon i.p) (idsOf s0 s1 s2 n)) (keyAt (fun i => i.l) (idsOf s0 s1 s2 n)) (keyAt (fun i => canon i.s) (idsOf s0 s1 s2 n)) (isP s0) (isT s0 s1) (isG s0 s1 s2) := by
  have k : ∀ (kf : Id3 → ByteArray) i, i < n → keyAt kf (idsOf s0 s1 s2 n) i = (kf ⟨s0.getD i ByteArray.empty, s1.getD i ByteArray.empty, s2.getD i ByteArray.empty⟩).toList := fun kf i h => keyAt_get (ids_get s0 s1 s2 n i h)
  refine ⟨fun i h1 h2 => ?_, fun i h => ?_, fun i h1 h2 h3 => ?_, fun i h => ?_, fun i h1 h2 h3 => ?_⟩
  · rw [k _ i h2, k _ (i - 1) (by omega)]
    simp only [canon_iff]
    unfold isP newP
    simp
  · unfold isT; unfold isP at h; rw [h]; rfl
  · rw [k _ i h2, k _ (i - 1) (by omega)]
    unfold isT
    unfold isP at h3
    rw [h3]
    unfold newL
    simp
  · unfold isG; unfold isT at h; rw [h]; rfl
  · rw [k _ i h2, k _ (i - 1) (by omega)]
    simp only [canon_iff]
    unfold isG
    unfold isT at h3
    rw [h3]
    unfold newP
    simp

/-- A slice of strings that the call owns, as the walks ask it. -/
theorem strAt_of_owns {w : World} {base n : Nat} {v : Value} {ss : List ByteArray} (h : w.ownsRow base 9 1 v n (strs ss)) : ∃ a cap, v = .slice a n cap ∧ StrAt w a ss := by
  obtain ⟨a, cap, rfl, _, hs⟩ := Sees.of_owns (X := []) h (fun k _ => by simp)
  refine ⟨a, cap, rfl, fun k s hk => ?_⟩
  obtain ⟨b, off, ha, _, hc⟩ := hs k (.string s) (by simp [strs, hk])
  exact ⟨b, off, ha, hc⟩

theorem byNum_lens (PK TK GK : Nat → List UInt8) (np nt ng : Nat → Bool) (n : Nat) : ∀ x ∈ modelOf (cnt np) (cnt nt) (cnt ng) n, x.length ≤ n := by
  intro x hx
  simp only [modelOf, List.mem_map] at hx
  obtain ⟨i, _, rfl⟩ := hx
  have := List.length_filter_le (dep (cnt np) (cnt nt) (cnt ng) n i) (List.range n)
  simpa [wantOf] using this

/-- The road behind the guards. -/
def Good (w : World) (e : Ending) (w' : World) : Prop := e = .returned (.bool true) ∧ Below w.heap.size w w'

end Go.Proofs.Qxb6600314aDoor
