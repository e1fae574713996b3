/-
  Seat b6600715aD: bytes in memory; the law's guards, counting digits, cloning, joining. By an AI agent (seat 043).
-/
import Derived.Test.Qxb6600715aDoorRows
import Derived.WalkKit
import Derived.WalkSpells
import Derived.WalkLawsBesides
import Derived.Handy
import Derived.Laws.CopyOwn
set_option linter.unusedSimpArgs false
set_option linter.unusedVariables false
namespace Go.Proofs.Qxb6600715aDoor
open Go.RowKit

/-- A slice of bytes in memory: the address, and the bytes that its cells hold. -/
def BAt (w : World) (a : Option Addr) (bs : List UInt8) : Prop :=
  ∀ k b, bs[k]? = some b → ∃ g off, a = some ⟨g, off, none⟩ ∧ w.cell? ⟨g, off + k, none⟩ = some (.int .u8 (b.toNat : Int))
theorem BAt.later {w w' : World} {a : Option Addr} {bs : List UInt8} (h : BAt w a bs) (hb : Below w.heap.size w w') : BAt w' a bs := by
  intro k s hk
  obtain ⟨b, off, ha, hc⟩ := h k s hk
  exact ⟨b, off, ha, cell_later hb hc⟩
theorem BAt.nil (w : World) (a : Option Addr) : BAt w a [] := fun k b h => by simp at h

def byteVals (bs : List UInt8) : List Value := bs.map fun b => .int .u8 (b.toNat : Int)
theorem byteVals_len (bs : List UInt8) : (byteVals bs).length = bs.length := by simp [byteVals]
theorem byteVals_app (a b : List UInt8) : byteVals (a ++ b) = byteVals a ++ byteVals b := by simp [byteVals]

/-- Which bytes may stand. -/
def okB (b : UInt8) : Bool := b == 95 || (decide (48 ≤ b.toNat) && decide (b.toNat ≤ 57))
/-- The bytes but for the underscores. -/
def strip (bs : List UInt8) : List UInt8 := bs.filter (· != 95)
theorem strip_app (a b : List UInt8) : strip (a ++ b) = strip a ++ strip b := by simp [strip]
theorem strip_len_le (a : List UInt8) : (strip a).length ≤ a.length := List.length_filter_le _ _
theorem ne95 (b : UInt8) (h : b ≠ 95) : ((b.toNat : Int) != 95) = true := by
  rw [bne_iff_ne]
  intro e
  apply h
  apply UInt8.toNat_inj.1
  have : b.toNat = 95 := by omega
  rw [this]; rfl
theorem eq95 : (((95 : UInt8).toNat : Int) != 95) = false := rfl

/-- The call hands back some bool. -/
def SomeBool (e : Ending) : Prop := ∃ r : Bool, e = .returned (.bool r)

set_option maxHeartbeats 400000 in
theorem zzBytes6_any (neg : Bool) (a0 a1 a2 : Option Addr) (n0 n1 n2 c0 c1 c2 : Nat) (w : World) :
    Calls Tryd.prog 6 #[.bool neg, .slice a0 n0 c0, .slice a1 n1 c1, .slice a2 n2 c2] w fun e w' => SomeBool e ∧ w' = w := by
  go_enter Tryd.func6, Tryd.ntmps6
  go_wp2
  all_goals (go_ret; exact ⟨⟨_, rfl⟩, rfl⟩)
set_option maxHeartbeats 400000 in
theorem zzBytes14_any (neg : Bool) (a0 a1 a2 : Option Addr) (n0 n1 n2 c0 c1 c2 : Nat) (w : World) :
    Calls Tryd.prog 14 #[.bool neg, .slice a0 n0 c0, .slice a1 n1 c1, .slice a2 n2 c2] w fun e w' => SomeBool e ∧ w' = w := by
  go_enter Tryd.func14, Tryd.ntmps14
  go_wp2
  all_goals (go_ret; exact ⟨⟨_, rfl⟩, rfl⟩)

set_option maxHeartbeats 400000 in
theorem isDigit_any (b : UInt8) (w : World) :
    Calls Tryd.prog 18 #[.int .u8 (b.toNat : Int)] w fun e w' => e = .returned (.bool (decide (48 ≤ b.toNat) && decide (b.toNat ≤ 57))) ∧ w' = w := by
  by_cases h1 : 48 ≤ b.toNat
  · have d1 : decide (48 ≤ b.toNat) = true := by simp [h1]
    rw [d1]
    have i1 : (48 : Int) ≤ (b.toNat : Int) := by omega
    go_enter Tryd.func18, Tryd.ntmps18
    go_wp2
    go_ret
    refine ⟨?_, rfl⟩
    simp
    try omega
  · have d1 : decide (48 ≤ b.toNat) = false := by simp; omega
    rw [d1]
    have i1 : ¬ (48 : Int) ≤ (b.toNat : Int) := by omega
    go_enter Tryd.func18, Tryd.ntmps18
    go_wp2
    go_ret
    refine ⟨?_, rfl⟩
    simp

set_option maxHeartbeats 1000000 in
theorem onlyDigits_any (a : Option Addr) (n cap : Nat) (bs : List UInt8) (w : World) (hn : bs.length = n) (hmax : n ≤ 65536) (hs : BAt w a bs) :
    Calls Tryd.prog 7 #[.slice a n cap] w fun e w' => e = .returned (.bool (bs.all okB)) ∧ w' = w := by
  go_enter Tryd.func7, Tryd.ntmps7
  go_wp2
  go_loop [3] (fun i => ∃ k : Nat, k ≤ n ∧ i = .int .i64 k ∧ (bs.take k).all okB = true) (fun i => n - (intOf i).toNat)
  case atStart => exact ⟨0, Nat.zero_le _, rfl, rfl⟩
  case round =>
    obtain ⟨k, hk, rfl, hall⟩ := hrel
    by_cases hlt : k < n
    · have hbk : bs[k]? = some (bs[k]'(by omega)) := by rw [List.getElem?_eq_getElem]
      have hmem : bs[k]'(by omega) ∈ bs := List.getElem_mem _
      have hnext : okB (bs[k]'(by omega)) = true → (bs.take (k + 1)).all okB = true := fun h => by
        rw [List.take_add_one, List.all_append, hall, hbk]; simp [h]
      have hbad : okB (bs[k]'(by omega)) = false → bs.all okB = false := fun h => by
        rw [← Bool.not_eq_true]; intro h2; rw [List.all_eq_true] at h2; have := h2 _ hmem; rw [h] at this; cases this
      generalize bs[k]'(by omega) = b at *
      obtain ⟨g, off, rfl, hcell⟩ := hs k b hbk
      by_cases h95 : b = 95
      · subst h95
        have HN : Hid _ := hnext rfl
        clear hnext hbad hall
        have h95' := eq95
        go_wp2
        go_round
        case rel => exact ⟨k + 1, by omega, by go_num, HN.out⟩
        case measure => simp [intOf]; omega
      · have h95' := ne95 b h95
        have hD := isDigit_any b w
        cases hd : (decide (48 ≤ b.toNat) && decide (b.toNat ≤ 57)) with
        | true =>
          have HN : Hid _ := hnext (by simp [okB, hd])
          rw [hd] at hD
          clear hnext hbad hall hd h95
          go_wp2_with fail
          refine hD.mono ?_
          rintro e w' ⟨rfl, rfl⟩
          go_wp2
          go_round
          case rel => exact ⟨k + 1, by omega, by go_num, HN.out⟩
          case measure => simp [intOf]; omega
        | false =>
          have HN : Hid _ := hbad (by simp [okB, hd, h95])
          rw [hd] at hD
          clear hnext hbad hall hd h95
          go_wp2_with fail
          refine hD.mono ?_
          rintro e w' ⟨rfl, rfl⟩
          go_wp2
          go_ret
          exact ⟨by rw [HN.out]; rfl, rfl⟩
    · have hkn : k = n := by omega
      subst hkn
      rw [← hn, List.take_length] at hall
      have HN : Hid _ := hall
      clear hall
      go_wp2
      go_ret
      exact ⟨by rw [HN.out]; rfl, rfl⟩

set_option maxHeartbeats 1000000 in
theorem countDigits_any (a : Option Addr) (n cap : Nat) (bs : List UInt8) (w : World) (hn : bs.length = n) (hmax : n ≤ 65536) (hs : BAt w a bs) :
    Calls Tryd.prog 13 #[.slice a n cap] w fun e w' => e = .returned (.int .i64 ((strip bs).length : Int)) ∧ w' = w := by
  go_enter Tryd.func13, Tryd.ntmps13
  go_wp2
  go_loop [3, 4] (fun c i => ∃ k m : Nat, k ≤ n ∧ i = .int .i64 (k : Int) ∧ c = .int .i64 (m : Int) ∧ m = (strip (bs.take k)).length ∧ m ≤ k) (fun _ i => n - (intOf i).toNat)
  case atStart => exact ⟨0, 0, Nat.zero_le _, rfl, rfl, rfl, Nat.le_refl _⟩
  case round =>
    obtain ⟨k, m, hk, rfl, rfl, hm, hmk⟩ := hrel
    by_cases hlt : k < n
    · have hbk : bs[k]? = some (bs[k]'(by omega)) := by rw [List.getElem?_eq_getElem]
      generalize bs[k]'(by omega) = b at *
      obtain ⟨g, off, rfl, hcell⟩ := hs k b hbk
      have ht : bs.take (k + 1) = bs.take k ++ [b] := by rw [List.take_add_one, hbk]; rfl
      by_cases h95 : b = 95
      · subst h95
        have HN : Hid (m = (strip (bs.take (k + 1))).length) := by
          show m = _
          rw [ht, strip_app, hm]; simp [strip]
        clear ht hm
        have h95' := eq95
        go_wp2
        go_round
        case rel => exact ⟨k + 1, m, by omega, by go_num, rfl, HN.out, by omega⟩
        case measure => simp [intOf]; omega
      · have HN : Hid (m + 1 = (strip (bs.take (k + 1))).length) := by
          show m + 1 = _
          rw [ht, strip_app, hm]; simp [strip, h95]
        have h95' := ne95 b h95
        clear ht hm h95
        go_wp2
        go_round
        case rel => exact ⟨k + 1, m + 1, by omega, by go_num, by go_num, HN.out, by omega⟩
        case measure => simp [intOf]; omega
    · have hkn : k = n := by omega
      subst hkn
      rw [← hn, List.take_length] at hm
      have HN : Hid _ := hm
      clear hm
      go_wp2
      go_ret
      exact ⟨by rw [← HN.out]; rfl, rfl⟩

end Go.Proofs.Qxb6600715aDoor
