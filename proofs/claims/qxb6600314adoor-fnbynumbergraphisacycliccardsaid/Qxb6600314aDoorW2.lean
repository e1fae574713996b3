/-
  Seat b6600314aD: cloneStrings. By an AI agent (seat 043).
-/
import Derived.Test.Qxb6600314aDoorW1
namespace Go.Proofs.Qxb6600314aDoor
open Go.RowKit

theorem info9 : (Tryd.prog.info? 9).map (fun i => (i.zero, i.size, i.bytes)) = some (some (.string ByteArray.empty), 1, 16) := by kernel_rfl

/-- A new slice of one-cell elements of type e in the call's own memory, that holds xs; nothing old has turned. -/
def NewRow (e : TypeId) (w : World) (n : Nat) (xs : List Value) (x : Ending) (w' : World) : Prop :=
  ∃ v, x = .returned v ∧ w'.ownsRow w.heap.size e 1 v n xs ∧ Below w.heap.size w w'

def strs (ss : List ByteArray) : List Value := ss.map Value.string

theorem strAt_later {w w' : World} {a : Option Addr} {ss : List ByteArray} (h : StrAt w a ss) (hb : Below w.heap.size w w') : StrAt w' a ss := by
  intro k s hk
  obtain ⟨b, off, ha, hc⟩ := h k s hk
  exact ⟨b, off, ha, cell_later hb hc⟩

/-- A row as far as it is filled: the first k of xs, then zero values. -/
def fillV (xs : List Value) (z : Value) (n k : Nat) : List Value := xs.take k ++ List.replicate (n - k) z
theorem fillV_zero (xs : List Value) (z : Value) (n : Nat) : fillV xs z n 0 = List.replicate n z := by simp [fillV]
theorem fillV_full (xs : List Value) (z : Value) (n : Nat) (h : xs.length = n) : fillV xs z n n = xs := by
  rw [fillV, List.take_of_length_le (by omega), Nat.sub_self]
  simp
theorem fillV_set (xs : List Value) (z u : Value) (n k : Nat) (h : xs.length = n) (hu : xs[k]? = some u) : (fillV xs z n k).set k u = fillV xs z n (k + 1) := by
  obtain ⟨hk, hu⟩ := List.getElem?_eq_some_iff.1 hu
  unfold fillV
  have hl : (xs.take k).length = k := by simp; omega
  rw [List.set_append_right _ _ (by omega), hl, Nat.sub_self]
  obtain ⟨m, hm⟩ : ∃ m, n - k = m + 1 := ⟨n - k - 1, by omega⟩
  have hm' : n - (k + 1) = m := by omega
  rw [hm, hm', List.replicate_succ, List.set_cons_zero, List.take_succ_eq_append_getElem hk, hu]
  simp

theorem someAt {w : World} {base : Nat} {e : TypeId} {size g n cap : Nat} {xs : List Value} (h : w.ownsRow base e size (.slice (some ⟨g, 0, none⟩) n cap) n xs) (j : Nat) (hj : j < n * size) : ∃ u, w.cell? ⟨g, j, none⟩ = some u :=
  ⟨xs[j]'(by rw [h.1]; exact hj), by rw [h.cellAt j hj]; simp [h.1, hj]⟩

set_option maxHeartbeats 400000 in
theorem cloneStrings_any (a : Option Addr) (n cap : Nat) (ss : List ByteArray) (w : World) (hn : ss.length = n) (hmax : n ≤ 1024) (hnil : a = none → n = 0) (hs : StrAt w a ss) :
    Calls Tryd.prog 8 #[.slice a n cap] w fun e w' => NewRow 9 w n (strs ss) e w' := by
  have q22 : ∀ (w : World) (a : Option Addr) (n c n' c' : Nat), (binOp .eql 22 (.slice a n c) (.slice none n' c')).run Tryd.prog w = .ok (.bool a.isNone) w := fun w a n c n' c' => Lib.run_eql_slice_nil w _ _ a n c n' c' Tryd.underlying22
  obtain ⟨i0, hi, hz0, hz1, hz2⟩ := info_parts info9
  cases a with
  | none =>
    have h0 := hnil rfl
    subst h0
    have hss : ss = [] := List.eq_nil_of_length_eq_zero hn
    subst hss
    go_enter Tryd.func8, Tryd.ntmps8
    go_wp2
    go_ret
    exact ⟨_, rfl, World.ownsRow_nil _ _ _ _, Below.refl _ _⟩
  | some ad =>
    go_enter Tryd.func8, Tryd.ntmps8
    go_wp2_with (at_make; refine wpList_make_full _ rfl _ _ 22 rfl w.heap.size 9 i0 (.string ByteArray.empty) 1 Tryd.underlying22 hi hz0 hz1 .i64 .i64 _ _ n rfl rfl rfl rfl (by rw [hz2]; omega) (by unfold maxLen; omega) (Nat.le_refl _) ?_; intro w1 hown hgrow)
    have hb1 : Below w.heap.size w w1 := (Below.refl _ _).grown hgrow (Nat.le_refl _) (fun k h => by cases h)
    have hown0 : w1.ownsRow w.heap.size 9 1 (.slice (some ⟨w.heap.size, 0, none⟩) n n) n (fillV (strs ss) (.string ByteArray.empty) n 0) := by
      rw [fillV_zero]
      simpa [toList_madeCells_one, Value.cells] using hown
    clear hown hgrow
    go_loopw [4] (fun i wr => ∃ k : Nat, k ≤ n ∧ i = .int .i64 k ∧ wr.ownsRow w.heap.size 9 1 (.slice (some ⟨w.heap.size, 0, none⟩) n n) n (fillV (strs ss) (.string ByteArray.empty) n k) ∧ Below w.heap.size w wr) (fun i _ => n - (intOf i).toNat)
    case atStart => exact ⟨0, Nat.zero_le _, rfl, hown0, hb1⟩
    case round =>
      obtain ⟨k, hk, rfl, hownr, hbr⟩ := hrel
      by_cases hlt : k < n
      · have hsk : ss[k]? = some (ss[k]'(by omega)) := by simp [hn, hlt]
        generalize ss[k]'(by omega) = s at hsk
        obtain ⟨b, off, ha, hcell⟩ := strAt_later hs hbr k s hsk
        cases ha
        have hfr := hownr.frozenAt k
        obtain ⟨old, hck⟩ := someAt hownr k (by omega)
        obtain ⟨h1, h2⟩ := hownr.stored k (.string s)
        rw [fillV_set (strs ss) _ _ n k (by simp [strs, hn]) (by simp [strs, hsk])] at h1
        have hb2 := hbr.grown h2 hbr.size (fun j h => by cases h; exact Nat.le_refl _)
        clear h2 hb1 hown0
        go_wp2
        go_roundw
        case rel => exact ⟨k + 1, by omega, by go_num, h1, hb2⟩
        case measure => simp [intOf]; omega
      · have hkn : k = n := by omega
        subst hkn
        rw [fillV_full _ _ _ (by simp [strs, hn])] at hownr
        go_wp2
        go_ret
        exact ⟨_, rfl, hownr, hbr⟩
end Go.Proofs.Qxb6600314aDoor
