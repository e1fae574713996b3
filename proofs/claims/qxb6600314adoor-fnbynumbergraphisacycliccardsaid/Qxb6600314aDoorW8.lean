/-
  Seat b6600314aD: sameNumber, ZZbyNumber, sameLists. By an AI agent (seat 043).
-/
import Derived.Test.Qxb6600314aDoorW7
import Derived.Deep.QuietTactic
import Derived.BigQuiet
set_option linter.unusedSimpArgs false
set_option linter.unusedVariables false
namespace Go.Proofs.Qxb6600314aDoor
open Go.RowKit

/-- The k-th byte of a string, as a number. -/
def bt (s : ByteArray) (k : Nat) : Int := ((s.data.toList.getD k 0).toNat : Int)
theorem get_bt (s : ByteArray) : ∀ (n : Nat) (h : n < s.size), ((s[n]'h).toNat : Int) = bt s n := fun n h => by
  unfold bt
  rw [List.getD_eq_getElem?_getD, List.getElem?_eq_getElem (by simpa using h)]
  rfl
theorem bt_range (s : ByteArray) (k : Nat) : 0 ≤ bt s k ∧ bt s k ≤ 255 := by
  unfold bt
  have := UInt8.toNat_lt (s.data.toList.getD k 0)
  omega

/-- How many leading '0's. -/
def lead (s : ByteArray) : Nat := (s.data.toList.takeWhile (· == 48)).length
def tailOf (s : ByteArray) : List UInt8 := Lib.trimLeftB s.data.toList 48
def Quiet (w w' : World) : Prop := ∃ n, w' = w.drewN n

theorem lead_is (s : ByteArray) (i : Nat) (hi : i ≤ s.size) (h1 : ∀ j, j < i → bt s j = 48) (h2 : i < s.size → (bt s i == 48) = false) : lead s = i ∧ tailOf s = s.data.toList.drop i := by
  have hl : s.data.toList.length = s.size := by simp
  have := take_while_is (fun c : UInt8 => c == 48) s.data.toList i (by omega) (fun j x hj hx => by
      have h := h1 j hj
      unfold bt at h
      rw [List.getD_eq_getElem?_getD, hx] at h
      simp only [Option.getD_some] at h
      rw [beq_iff_eq]
      apply UInt8.toNat_inj.1
      show x.toNat = 48
      omega)
    (fun x hx => by
      have hil : i < s.size := by rw [← hl]; exact (List.getElem?_eq_some_iff.1 hx).1
      have h := h2 hil
      unfold bt at h
      rw [List.getD_eq_getElem?_getD, hx] at h
      simp only [Option.getD_some] at h
      rw [beq_eq_false_iff_ne] at h ⊢
      intro e
      subst e
      exact h rfl)
  constructor
  · unfold lead
    rw [this.1, List.length_take]
    omega
  · exact this.2

theorem tail_eq_of (a b : ByteArray) (hl : a.size - lead a = b.size - lead b) (ha : tailOf a = a.data.toList.drop (lead a)) (hb : tailOf b = b.data.toList.drop (lead b))
    (h : ∀ k, k < a.size - lead a → bt a (lead a + k) = bt b (lead b + k)) : (tailOf a == tailOf b) = true := by
  rw [beq_iff_eq, ha, hb]
  have la : a.data.toList.length = a.size := by simp
  have lb : b.data.toList.length = b.size := by simp
  apply List.ext_getElem (by simp; omega)
  intro k h1 h2
  have hk := h k (by simp at h1; omega)
  unfold bt at hk
  simp only [List.getElem_drop]
  rw [List.getD_eq_getElem?_getD, List.getD_eq_getElem?_getD, List.getElem?_eq_getElem (by simp at h1; omega), List.getElem?_eq_getElem (by simp at h2; omega)] at hk
  simp only [Option.getD_some] at hk
  apply UInt8.toNat_inj.1
  omega
theorem tail_ne_len (a b : ByteArray) (hl : a.size - lead a ≠ b.size - lead b) (ha : tailOf a = a.data.toList.drop (lead a)) (hb : tailOf b = b.data.toList.drop (lead b)) : (tailOf a == tailOf b) = false := by
  rw [beq_eq_false_iff_ne, ha, hb]
  intro e
  have := congrArg List.length e
  simp at this
  omega
theorem tail_ne_at (a b : ByteArray) (k : Nat) (hk : k < a.size - lead a) (hk2 : k < b.size - lead b) (ha : tailOf a = a.data.toList.drop (lead a)) (hb : tailOf b = b.data.toList.drop (lead b)) (h : (bt a (lead a + k) != bt b (lead b + k)) = true) : (tailOf a == tailOf b) = false := by
  rw [beq_eq_false_iff_ne, ha, hb]
  intro e
  have e2 : (a.data.toList.drop (lead a))[k]? = (b.data.toList.drop (lead b))[k]? := by rw [e]
  rw [List.getElem?_drop, List.getElem?_drop] at e2
  rw [bne_iff_ne] at h
  apply h
  unfold bt
  rw [List.getD_eq_getElem?_getD, List.getD_eq_getElem?_getD, e2]

set_option maxHeartbeats 2000000 in
theorem sameNumber_any (a b : ByteArray) (w : World) (hla : a.size ≤ 9223372036854775807) (hlb : b.size ≤ 9223372036854775807) :
    Calls Tryd.prog 19 #[.string a, .string b] w fun e w' => e = .returned (.bool (tailOf a == tailOf b)) ∧ Quiet w w' := by
  have ga := get_bt a
  have gb := get_bt b
  go_enter Tryd.func19, Tryd.ntmps19
  go_wp2
  go_loop [5] (fun i => ∃ k : Nat, k ≤ a.size ∧ i = .int .i64 (k : Int) ∧ ∀ j, j < k → bt a j = 48) (fun i => a.size - (intOf i).toNat)
  case atStart => exact ⟨0, Nat.zero_le _, rfl, fun j h => absurd h (by omega)⟩
  case round =>
    obtain ⟨k, hk, rfl, hall⟩ := hrel
    have HA : Hid _ := hall
    clear hall
    by_cases hc : k < a.size ∧ bt a k = 48
    · obtain ⟨hlt, hz⟩ := hc
      have hzb : (bt a k == 48) = true := by simp [hz]
      have HZ : Hid (bt a k = 48) := hz
      clear hz
      go_wp2
      go_round
      case rel =>
        refine ⟨k + 1, by omega, by go_num, fun j hj => ?_⟩
        by_cases e : j < k
        · exact HA.out j e
        · have : j = k := by omega
          subst this
          exact HZ.out
      case measure => simp [intOf]; omega
    · have hend : k < a.size → (bt a k == 48) = false := fun h => by
        rw [beq_eq_false_iff_ne]
        exact fun e => hc ⟨h, e⟩
      obtain ⟨ea, ta⟩ := lead_is a k hk HA.out hend
      have EA : Hid (lead a = k) := ea
      have TA : Hid _ := ta
      clear hc ea ta
      have hka : (k : Int) ≤ (a.size : Int) := by omega
      by_cases hlt : k < a.size
      all_goals
        first | have hzb := hend hlt | skip
        clear hend
        go_wp2
        go_loop [6] (fun i => ∃ m : Nat, m ≤ b.size ∧ i = .int .i64 (m : Int) ∧ ∀ j, j < m → bt b j = 48) (fun i => b.size - (intOf i).toNat)
        case atStart => exact ⟨0, Nat.zero_le _, rfl, fun j h => absurd h (by omega)⟩
        case round =>
          obtain ⟨m, hm, rfl, hall⟩ := hrel
          have HB : Hid _ := hall
          clear hall
          by_cases hc : m < b.size ∧ bt b m = 48
          · obtain ⟨hltm, hz⟩ := hc
            have hzb2 : (bt b m == 48) = true := by simp [hz]
            have HZ : Hid (bt b m = 48) := hz
            clear hz
            go_wp2
            go_round
            case rel =>
              refine ⟨m + 1, by omega, by go_num, fun j hj => ?_⟩
              by_cases e : j < m
              · exact HB.out j e
              · have : j = m := by omega
                subst this
                exact HZ.out
            case measure => simp [intOf]; omega
          · have hend : m < b.size → (bt b m == 48) = false := fun h => by
              rw [beq_eq_false_iff_ne]
              exact fun e => hc ⟨h, e⟩
            obtain ⟨eb, tb⟩ := lead_is b m hm HB.out hend
            have EB : Hid (lead b = m) := eb
            have TB : Hid _ := tb
            have hmb : (m : Int) ≤ (b.size : Int) := by omega
            clear hc eb tb
            by_cases hltm : m < b.size
            all_goals
              first | have hzb2 := hend hltm | skip
              clear hend
              by_cases hne : a.size - k = b.size - m
              · have hnb : ((a.size : Int) - (k : Int) != (b.size : Int) - (m : Int)) = false := by
                  rw [bne_eq_false_iff_eq]; omega
                have hab : (a.size : Int) - (k : Int) = (b.size : Int) - (m : Int) := by omega
                have HAB : Hid _ := hab
                clear hab hne
                go_wp2
                go_loopw [7] (fun i wr => ∃ q : Nat, q ≤ a.size - k ∧ i = .int .i64 (q : Int) ∧ (∀ j, j < q → bt a (k + j) = bt b (m + j)) ∧ Quiet w wr) (fun i _ => a.size - k - (intOf i).toNat)
                case atStart => exact ⟨0, Nat.zero_le _, rfl, fun j h => absurd h (by omega), ⟨0, rfl⟩⟩
                case round =>
                  obtain ⟨q, hq, rfl, hall, ⟨nd, hqw⟩⟩ := hrel
                  have HQ : Hid _ := hall
                  have HW : Hid _ := hqw
                  clear hall hqw
                  by_cases hltq : k + q < a.size
                  · have hltb : m + q < b.size := by have := HAB.out; omega
                    have x1 : (k : Int) + (q : Int) < (a.size : Int) := by omega
                    have x2 : (m : Int) + (q : Int) < (b.size : Int) := by omega
                    by_cases he : (bt a (k + q) != bt b (m + q)) = true
                    · have hres : (tailOf a == tailOf b) = false := tail_ne_at a b q (by rw [EA.out]; omega) (by rw [EB.out]; omega) (by rw [EA.out]; exact TA.out) (by rw [EB.out]; exact TB.out) (by rw [EA.out, EB.out]; exact he)
                      have HRES : Hid _ := hres
                      clear hres
                      go_wp2
                      go_quiet (fail)
                      go_wp2
                      go_ret
                      exact ⟨by rw [HRES.out]; rfl, ⟨nd + nq, by rw [HW.out]; exact World.drewN_drewN _ _ _⟩⟩
                    · have he' : (bt a (k + q) != bt b (m + q)) = false := by simpa using he
                      have HE : Hid _ := he'
                      clear he
                      go_wp2
                      go_quiet (fail)
                      go_wp2
                      go_roundw
                      case rel =>
                        refine ⟨q + 1, by omega, by go_num, fun j hj => ?_, ⟨nd + nq, by rw [HW.out]; exact World.drewN_drewN _ _ _⟩⟩
                        by_cases e : j < q
                        · exact HQ.out j e
                        · have : j = q := by omega
                          subst this
                          simpa using HE.out
                      case measure => simp [intOf]; omega
                  · have hqe : q = a.size - k := by omega
                    have hres : (tailOf a == tailOf b) = true := tail_eq_of a b (by rw [EA.out, EB.out]; have := HAB.out; omega) (by rw [EA.out]; exact TA.out) (by rw [EB.out]; exact TB.out) (by rw [EA.out, EB.out, ← hqe]; exact HQ.out)
                    have HRES : Hid _ := hres
                    have hge : (a.size : Int) ≤ (k : Int) + (q : Int) := by omega
                    clear hres hqe
                    go_wp2
                    go_ret
                    exact ⟨by rw [HRES.out]; rfl, ⟨nd, HW.out⟩⟩
              · have hnb : ((a.size : Int) - (k : Int) != (b.size : Int) - (m : Int)) = true := by
                  rw [bne_iff_ne]; omega
                have hres : (tailOf a == tailOf b) = false := tail_ne_len a b (by rw [EA.out, EB.out]; exact hne) (by rw [EA.out]; exact TA.out) (by rw [EB.out]; exact TB.out)
                have HRES : Hid _ := hres
                clear hne hres
                go_wp2
                go_ret
                exact ⟨by rw [HRES.out]; rfl, ⟨0, rfl⟩⟩

end Go.Proofs.Qxb6600314aDoor
