/-
  Seat b6601132aD: the walk of groupedText, the law's model. By an AI agent (seat 043).
-/
import Derived.Test.Qxb6601132aDoorLo
set_option linter.unusedSimpArgs false
set_option linter.unusedVariables false
namespace Go.Proofs.Qxb6601132aDoor
open Go.RowKit

theorem ins_step (R : List UInt8) (h3 : R.length % 3 = 0) (h0 : 0 < R.length) : ins false R = 44 :: R.take 3 ++ ins false (R.drop 3) := by
  match R, h3, h0 with
  | a :: b :: c :: r, h3, h0 =>
    have e1 : (r.length + 1 + 1 + 1) % 3 = 0 := by simpa using h3
    have e2 : ¬ (r.length + 1 + 1) % 3 = 0 := by omega
    have e3 : ¬ (r.length + 1) % 3 = 0 := by omega
    simp [ins, e1, e2, e3]
  | [a], h3, h0 => simp at h3
  | [a, b], h3, h0 => simp at h3
theorem ins_first (W : List UInt8) (k : Nat) (hk : k ≤ W.length) (h1 : 1 ≤ k) (h3 : k ≤ 3) (hm : (W.length - k) % 3 = 0) : ins true W = W.take k ++ ins false (W.drop k) := by
  have hk' : k = 1 ∨ k = 2 ∨ k = 3 := by omega
  rcases hk' with rfl | rfl | rfl
  · match W, hk, hm with
    | a :: r, hk, hm => simp [ins]
  · match W, hk, hm with
    | a :: b :: r, hk, hm =>
      have e1 : ¬ (r.length + 1) % 3 = 0 := by simp at hm; omega
      simp [ins, e1]
    | [a], hk, hm => simp at hk
  · match W, hk, hm with
    | a :: b :: c :: r, hk, hm =>
      have e1 : ¬ (r.length + 1) % 3 = 0 := by simp at hm; omega
      have e2 : ¬ (r.length + 1 + 1) % 3 = 0 := by simp at hm; omega
      simp [ins, e1, e2]
    | [a], hk, hm => simp at hk
    | [a, b], hk, hm => simp at hk

theorem str_ext (l : List UInt8) (a b : Nat) : (Str l).extract a b = Str ((l.drop a).take (b - a)) := by
  apply ByteArray.ext
  rw [ByteArray.data_extract]
  apply Array.toList_inj.1
  simp [List.extract_eq_take_drop]
theorem str_get {l : List UInt8} {k : Nat} {b : UInt8} (h : l[k]? = some b) (h' : k < (Str l).size) : (Str l)[k]'h' = b := by
  obtain ⟨h1, h2⟩ := List.getElem?_eq_some_iff.1 h
  rw [← h2]
  rfl
theorem beqN {b : UInt8} (n : Nat) (hn : n < 256) (h : b ≠ UInt8.ofNat n) : ((b.toNat : Int) == (n : Int)) = false := by
  rw [beq_eq_false_iff_ne]
  intro e
  apply h
  apply UInt8.toNat_inj.1
  rw [UInt8.toNat_ofNat', Nat.mod_eq_of_lt (by simpa using hn)]
  omega

def dotAt (d : List UInt8) : Int := if rest d = [] then -1 else ((whole d).length : Int)
theorem dot_cons (c : UInt8) (r : List UInt8) (h : c ≠ 46) : whole (c :: r) = c :: whole r ∧ rest (c :: r) = rest r := by
  have h2 : (c != 46) = true := by simpa using h
  constructor
  · unfold whole; rw [List.takeWhile_cons, if_pos h2]
  · unfold rest; rw [List.dropWhile_cons, if_pos h2]

def DRel (d : List UInt8) (i : Value) : Prop := ∃ k : Nat, k ≤ d.length ∧ i = .int .i64 (k : Int) ∧ whole d = d.take k ++ whole (d.drop k) ∧ rest d = rest (d.drop k)

set_option maxRecDepth 100000 in
set_option maxHeartbeats 1000000 in
theorem dot_any (d : List UInt8) (w : World) (hl : d.length ≤ 4194304) : Calls Tryd.prog 15 #[.string (Str d)] w fun e w' => e = .returned (.int .i64 (dotAt d)) ∧ w' = w := by
  go_enter Tryd.func15, Tryd.ntmps15
  go_wp2
  go_loop [3] (fun i => DRel d i) (fun i => d.length - (intOf i).toNat)
  case atStart => exact ⟨0, Nat.zero_le _, rfl, rfl, rfl⟩
  case round =>
    obtain ⟨k, hk, rfl, hw, hr⟩ := hrel
    by_cases hlt : k < d.length
    · have hdk : d[k]? = some (d[k]) := by simp [hlt]
      have hdrop : d.drop k = d[k] :: d.drop (k + 1) := List.drop_eq_getElem_cons hlt
      generalize d[k] = c at *
      have hsi : ∀ h, (Str d)[k]'h = c := fun h => str_get hdk h
      have i1 : (k : Int) < (d.length : Int) := by omega
      have i3 : (0 : Int) ≤ (k : Int) := by omega
      by_cases h46 : c = 46
      · subst h46
        have hdot : dotAt d = (k : Int) := by
          unfold dotAt
          rw [hr, hw, hdrop]
          have e1 : rest (46 :: d.drop (k + 1)) = 46 :: d.drop (k + 1) := rfl
          have e2 : whole (46 :: d.drop (k + 1)) = [] := rfl
          rw [e1, e2]
          simp
          omega
        have b46 : (((46 : UInt8).toNat : Int) == 46) = true := rfl
        have HF : Hid _ := hdot
        clear hw hr hdrop hdk hdot
        go_wp2
        go_ret
        exact ⟨by rw [HF.out]; try rfl, rfl⟩
      · have b46 : ((c.toNat : Int) == 46) = false := beqN 46 (by omega) h46
        have HREL : Hid (DRel d (.int .i64 ((k + 1 : Nat) : Int))) := by
          refine ⟨k + 1, by omega, rfl, ?_, ?_⟩
          · rw [hw, hdrop, (dot_cons c _ h46).1, List.take_add_one, hdk]
            simp
          · rw [hr, hdrop, (dot_cons c _ h46).2]
        clear hw hr hdrop hdk h46
        go_wp2
        go_round
        case rel => exact HREL.out
        case measure => simp [intOf]; omega
    · have hkn : k = d.length := by omega
      subst hkn
      have hdot : dotAt d = -1 := by
        unfold dotAt
        rw [hr, List.drop_length]
        rfl
      have HF : Hid _ := hdot
      clear hw hr hdot
      go_wp2
      go_ret
      exact ⟨by rw [HF.out]; try rfl, rfl⟩

def ARel (d : List UInt8) (i : Value) : Prop := ∃ k : Nat, k ≤ d.length ∧ i = .int .i64 (k : Int) ∧ (d.take k).all isDig = true
def numB (d : List UInt8) : Bool := decide (d ≠ []) && d.all isDig

set_option maxRecDepth 100000 in
set_option maxHeartbeats 1000000 in
theorem digits_any (d : List UInt8) (w : World) (hl : d.length ≤ 4194304) : Calls Tryd.prog 16 #[.string (Str d)] w fun e w' => e = .returned (.bool (numB d)) ∧ w' = w := by
  by_cases hd0 : d = []
  · subst hd0
    go_enter Tryd.func16, Tryd.ntmps16
    go_wp2
    go_ret
    exact ⟨rfl, rfl⟩
  · have hp : 0 < d.length := List.length_pos_iff.2 hd0
    have z0 : ((d.length : Int) == 0) = false := by rw [beq_eq_false_iff_ne]; omega
    have HD : Hid (d ≠ []) := hd0
    clear hd0
    go_enter Tryd.func16, Tryd.ntmps16
    go_wp2
    go_loop [3] (fun i => ARel d i) (fun i => d.length - (intOf i).toNat)
    case atStart => exact ⟨0, Nat.zero_le _, rfl, rfl⟩
    case round =>
      obtain ⟨k, hk, rfl, ha⟩ := hrel
      by_cases hlt : k < d.length
      · have hdk : d[k]? = some (d[k]) := by simp [hlt]
        generalize d[k] = c at *
        have hsi : ∀ h, (Str d)[k]'h = c := fun h => str_get hdk h
        have i1 : (k : Int) < (d.length : Int) := by omega
        have i3 : (0 : Int) ≤ (k : Int) := by omega
        by_cases hc : isDig c = true
        · have hc' := hc
          unfold isDig at hc'
          rw [Bool.and_eq_true, decide_eq_true_eq, decide_eq_true_eq] at hc'
          have c1 : decide ((c.toNat : Int) < 48) = false := by simp; omega
          have c2 : decide ((57 : Int) < (c.toNat : Int)) = false := by simp; omega
          have HREL : Hid (ARel d (.int .i64 ((k + 1 : Nat) : Int))) := by
            refine ⟨k + 1, by omega, rfl, ?_⟩
            rw [List.take_add_one, hdk, List.all_append, ha]
            simp [hc]
          clear ha hc hdk hc'
          go_wp2
          go_round
          case rel => exact HREL.out
          case measure => simp [intOf]; omega
        · have hf : numB d = false := by
            unfold numB
            have : d.all isDig = false := by
              rw [List.all_eq_false]
              exact ⟨c, List.mem_of_getElem? hdk, hc⟩
            rw [this, Bool.and_false]
          have HF : Hid _ := hf
          have hc' : ¬ (48 ≤ c.toNat ∧ c.toNat ≤ 57) := by
            intro h
            apply hc
            unfold isDig
            simp [h.1, h.2]
          clear ha hc hdk hf
          by_cases h48 : c.toNat < 48
          · have c1 : decide ((c.toNat : Int) < 48) = true := by simp; omega
            clear hc' h48
            go_wp2
            go_ret
            exact ⟨by rw [HF.out]; try rfl, rfl⟩
          · have c1 : decide ((c.toNat : Int) < 48) = false := by simp; omega
            have c2 : decide ((57 : Int) < (c.toNat : Int)) = true := by simp; omega
            clear hc' h48
            go_wp2
            go_ret
            exact ⟨by rw [HF.out]; try rfl, rfl⟩
      · have hkn : k = d.length := by omega
        subst hkn
        rw [List.take_length] at ha
        have hf : numB d = true := by
          unfold numB
          rw [ha, Bool.and_true]
          simpa using HD.out
        have HF : Hid _ := hf
        clear ha hf
        go_wp2
        go_ret
        exact ⟨by rw [HF.out]; try rfl, rfl⟩

end Go.Proofs.Qxb6601132aDoor
