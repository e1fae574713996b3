/-
  Seat b6600314aD: the law FnByNumberMatchesRunModel: the bridge from keys to marks, and the law's walk. By an AI agent (seat 043).
-/
import Derived.Test.Qxb6600314aDoorWB
import Derived.Test.Qxb6600314aDoorPl4
set_option linter.unusedSimpArgs false
set_option linter.unusedVariables false
namespace Go.Proofs.Qxb6600314aDoor
open Go.RowKit

theorem drop_head (c : UInt8) : ∀ (l : List UInt8) (x : UInt8) (r : List UInt8), l.dropWhile (· == c) = x :: r → x ≠ c
  | [], x, r, h => by simp at h
  | y :: l, x, r, h => by
    rw [List.dropWhile_cons] at h
    split at h
    · exact drop_head c l x r h
    · rename_i hy
      cases h
      simpa using hy
theorem canon_list (a : ByteArray) : (canon a).toList = if tailOf a = [] then [48] else tailOf a := by
  unfold canon
  show (ite (tailOf a = []) _ _ : ByteArray).toList = _
  split
  · rw [ByteArray.toList_eq]
  · rw [ByteArray.toList_eq]; rfl
theorem canon_iff (a b : ByteArray) : (canon a).toList = (canon b).toList ↔ tailOf a = tailOf b := by
  rw [canon_list, canon_list]
  have hd : ∀ s : ByteArray, tailOf s ≠ [48] := fun s h => drop_head 48 _ 48 [] h rfl
  by_cases ha : tailOf a = [] <;> by_cases hb : tailOf b = []
  · simp [ha, hb]
  · simp only [ha, hb, if_true, if_false]
    constructor
    · intro h; exact absurd h.symm (hd b)
    · intro h; exact absurd h.symm hb
  · rw [if_neg ha, if_pos hb, hb]
    constructor
    · intro h; exact absurd h (hd a)
    · intro h; exact absurd h ha
  · simp [ha, hb]

theorem get_some {l : List ByteArray} {i : Nat} {e : ByteArray} (h : i < l.length) : l[i]? = some (l.getD i e) := by
  rw [List.getD_eq_getElem?_getD, List.getElem?_eq_getElem h]; rfl

/-- The ids of three lists of one length. -/
def idsOf (s0 s1 s2 : List ByteArray) (n : Nat) : List Id3 := (List.range n).map fun i => ⟨s0.getD i ByteArray.empty, s1.getD i ByteArray.empty, s2.getD i ByteArray.empty⟩
theorem ids_len (s0 s1 s2 : List ByteArray) (n : Nat) : (idsOf s0 s1 s2 n).length = n := by simp [idsOf]
theorem ids_get (s0 s1 s2 : List ByteArray) (n i : Nat) (h : i < n) : (idsOf s0 s1 s2 n)[i]? = some ⟨s0.getD i ByteArray.empty, s1.getD i ByteArray.empty, s2.getD i ByteArray.empty⟩ := by simp [idsOf, h]

theorem marks (s0 s1 s2 : List ByteArray) (n : Nat) :
    Marks n (keyAt (fun i => canon i.p) (idsOf s0 s1 s2 n)) (keyAt (fun i => i.l) (idsOf s0 s1 s2 n)) (keyAt (fun i => canon i.s) (idsOf s0 s1 s2 n)) (isP s0) (isT s0 s1) (isG s0 s1 s2) := by
  have k : ∀ (kf : Id3 → ByteArray) i, i < n → keyAt kf (idsOf s0 s1 s2 n) i = (kf ⟨s0.getD i ByteArray.empty, s1.getD i ByteArray.empty, s2.getD i ByteArray.empty⟩).toList := fun kf i h => keyAt_get (ids_get s0 s1 s2 n i h)
  refine ⟨fun i h1 h2 => ?_, fun i h => ?_, fun i h1 h2 h3 => ?_, fun i h => ?_, fun i h1 h2 h3 => ?_⟩
  · rw [k _ i h2, k _ (i - 1) (by omega)]
    simp only [canon_iff]
    unfold isP newP
    simp
  · unfold isT; unfold isP at h; rw [h]; rfl
  · rw [k _ i h2, k _ (i - 1) (by omega)]
    unfold isT
    unfold isP at h3
    rw [h3]
    unfold newL
    simp
  · unfold isG; unfold isT at h; rw [h]; rfl
  · rw [k _ i h2, k _ (i - 1) (by omega)]
    simp only [canon_iff]
    unfold isG
    unfold isT at h3
    rw [h3]
    unfold newP
    simp

/-- A slice of strings that the call owns, as the walks ask it. -/
theorem strAt_of_owns {w : World} {base n : Nat} {v : Value} {ss : List ByteArray} (h : w.ownsRow base 9 1 v n (strs ss)) : ∃ a cap, v = .slice a n cap ∧ StrAt w a ss := by
  obtain ⟨a, cap, rfl, _, hs⟩ := Sees.of_owns (X := []) h (fun k _ => by simp)
  refine ⟨a, cap, rfl, fun k s hk => ?_⟩
  obtain ⟨b, off, ha, _, hc⟩ := hs k (.string s) (by simp [strs, hk])
  exact ⟨b, off, ha, hc⟩

theorem byNum_lens (PK TK GK : Nat → List UInt8) (np nt ng : Nat → Bool) (n : Nat) : ∀ x ∈ modelOf (cnt np) (cnt nt) (cnt ng) n, x.length ≤ n := by
  intro x hx
  simp only [modelOf, List.mem_map] at hx
  obtain ⟨i, _, rfl⟩ := hx
  have := List.length_filter_le (dep (cnt np) (cnt nt) (cnt ng) n i) (List.range n)
  simpa [wantOf] using this

/-- The road behind the guards. -/
def Good (w : World) (e : Ending) (w' : World) : Prop := e = .returned (.bool true) ∧ Below w.heap.size w w'

set_option maxRecDepth 100000 in
set_option maxHeartbeats 2000000 in
theorem law3 (a0 a1 a2 : Option Addr) (n0 n1 n2 c0 c1 c2 : Nat) (s0 s1 s2 : List ByteArray) (w : World)
    (h0 : s0.length = n0) (h1 : s1.length = n1) (h2 : s2.length = n2) (m0 : n0 ≤ 9223372036854775807) (m1 : n1 ≤ 9223372036854775807) (m2 : n2 ≤ 9223372036854775807)
    (e0 : a0 = none → n0 = 0) (e1 : a1 = none → n1 = 0) (e2 : a2 = none → n2 = 0) (z0 : ∀ s ∈ s0, s.size ≤ 9223372036854775807) (z2 : ∀ s ∈ s2, s.size ≤ 9223372036854775807)
    (g0 : StrAt w a0 s0) (g1 : StrAt w a1 s1) (g2 : StrAt w a2 s2) :
    Calls Tryd.prog 3 #[.slice a0 n0 c0, .slice a1 n1 c1, .slice a2 n2 c2] w fun e w' => Good w e w' := by
  go_enter Tryd.func3, Tryd.ntmps3
  go_wp2_with fail
  refine (zzBytes_any a0 a1 a2 n0 n1 n2 c0 c1 c2 s0 s1 s2 w h0 h1 h2 m0 m1 m2 g0 g1 g2).mono ?_
  rintro e w' ⟨⟨r, rfl⟩, hw⟩
  subst hw
  cases r with
  | false =>
    go_wp2
    go_ret
    exact ⟨rfl, Below.refl _ _⟩
  | true =>
    go_wp2_with fail
    refine (idsBytes_any a0 a1 a2 n0 n1 n2 c0 c1 c2 s0 s1 s2 _ h0 h1 h2 m0 m1 m2 g0 g1 g2).mono ?_
    rintro e w' ⟨⟨tot, rfl⟩, hw⟩
    subst hw
    by_cases ht : 1048576 < tot
    · go_wp2
      go_ret
      exact ⟨rfl, Below.refl _ _⟩
    · by_cases hbad : 1024 < n0 ∨ 1024 < n1 ∨ 1024 < n2 ∨ n1 ≠ n0 ∨ n2 ≠ n0
      · go_wp2_with fail
        all_goals first | (go_ret; exact ⟨rfl, Below.refl _ _⟩) | (exfalso; omega)
      · have l0 : n0 ≤ 1024 := by omega
        have l1 : n1 = n0 := by omega
        have l2 : n2 = n0 := by omega
        subst l1
        subst l2
        clear hbad
        go_wp2_with fail
        refine (cloneStrings_any a0 _ c0 s0 _ h0 l0 e0 g0).mono ?_
        rintro e w1 ⟨v0, rfl, ho0, hb1⟩
        obtain ⟨a0', c0', rfl, q0⟩ := strAt_of_owns ho0
        go_wp2_with fail
        refine (cloneStrings_any a1 _ c1 s1 _ h1 l0 e1 (strAt_later g1 hb1)).mono ?_
        rintro e w2 ⟨v1, rfl, ho1, hb2⟩
        obtain ⟨a1', c1', rfl, q1⟩ := strAt_of_owns ho1
        go_wp2_with fail
        refine (cloneStrings_any a2 _ c2 s2 _ h2 l0 e2 (strAt_later (strAt_later g2 hb1) hb2)).mono ?_
        rintro e w3 ⟨v2, rfl, ho2, hb3⟩
        obtain ⟨a2', c2', rfl, q2⟩ := strAt_of_owns ho2
        have p0 := strAt_later (strAt_later q0 hb2) hb3
        have p1 := strAt_later q1 hb3
        clear g0 g1 g2 ho0 ho1 ho2 q0 q1
        go_wp2_with fail
        refine (sprintsOf_any a0' a1' a2' _ c0' c1' c2' s0 s1 s2 (idsOf s0 s1 s2 _) _ l0 h0 h1 h2 ?_ (ids_len _ _ _ _) p0 p1 q2).mono ?_
        · intro j id hj
          have hjn := (List.getElem?_eq_some_iff.1 hj).1
          rw [ids_len] at hjn
          rw [ids_get _ _ _ _ _ hjn] at hj
          cases hj
          exact ⟨get_some (by omega), get_some (by omega), get_some (by omega)⟩
        rintro e w4 ⟨S, rfl, hspr, hb4⟩
        go_wp2_with fail
        refine (zzbyNumber_any S 0 _ _ (idsOf s0 s1 s2 _) _ (ids_len _ _ _ _) l0 hspr).mono ?_
        rintro e w5 ⟨aA, capA, xsA, rfl, hsA, hrA, hb5⟩
        have p0' := strAt_later (strAt_later p0 hb4) hb5
        have p1' := strAt_later (strAt_later p1 hb4) hb5
        have p2' := strAt_later (strAt_later q2 hb4) hb5
        clear p0 p1 q2 hspr
        go_wp2_with fail
        refine (model_any a0' a1' a2' _ c0' c1' c2' s0 s1 s2 _ l0 h0 h1 h2 z0 z2 p0' p1' p2').mono ?_
        rintro e w6 ⟨aB, capB, xsB, rfl, hsB, hrB, hb6⟩
        have hm := byNum_model (marks s0 s1 s2 s2.length)
        rw [h2] at hm
        have hlens := byNum_lens (keyAt (fun i => canon i.p) (idsOf s0 s1 s2 n2)) (keyAt (fun i => i.l) (idsOf s0 s1 s2 n2)) (keyAt (fun i => canon i.s) (idsOf s0 s1 s2 n2)) (isP s0) (isT s0 s1) (isG s0 s1 s2) n2
        have hml := model_len (cnt (isP s0)) (cnt (isT s0 s1)) (cnt (isG s0 s1 s2)) n2
        rw [hm] at hrA ⊢
        generalize modelOf (cnt (isP s0)) (cnt (isT s0 s1)) (cnt (isG s0 s1 s2)) n2 = R at *
        have HML : Hid _ := hml
        have hsA6 := hsA.below hb6
        have hrA6 := hrA.below hb6
        clear hm hml hsA hrA p0' p1' p2'
        go_wp2_with fail
        refine (sameLists_any aA aB capA capB xsA xsB R R _ (by rw [HML.out]; exact l0) (by rw [HML.out]; exact l0) (fun x hx => by have := hlens x hx; omega) (fun x hx => by have := hlens x hx; omega) hsA6 hrA6 hsB hrB).mono ?_
        rintro e w7 ⟨rfl, hq⟩
        have hb7 : Below w6.heap.size w6 w7 := by
          obtain ⟨nn, rfl⟩ := hq
          exact below_drewN (Below.refl _ _) nn
        have hfin := below_step (below_step (below_step (below_step (below_step (below_step hb1 hb2) hb3) hb4) hb5) hb6) hb7
        have HFIN : Hid _ := hfin
        clear hfin hb1 hb2 hb3 hb4 hb5 hb6 hb7 hq hsA6 hrA6 hsB hrB hlens
        go_wp2
        go_ret
        exact ⟨by simp, HFIN.out⟩

end Go.Proofs.Qxb6600314aDoor
