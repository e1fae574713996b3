/-
  Seat b6600715aD: the walk of zzParseExponent. By an AI agent (seat 043).
-/
import Derived.Test.Qxb6600715aDoorPl
import Derived.Test.Qxb6600715aDoorW4
set_option linter.unusedSimpArgs false
set_option linter.unusedVariables false
namespace Go.Proofs.Qxb6600715aDoor
open Go.RowKit

def expRes (o : Option Int) : Ending := match o with | some v => .returned (.tuple #[.int .i64 v, .bool true]) | none => .returned (.tuple #[.int .i64 0, .bool false])

def PRel (bs : List UInt8) (s g d b v i : Value) : Prop :=
  ∃ (k dd vv : Nat) (seen ng big : Bool), k ≤ bs.length ∧ i = .int .i64 (k : Int) ∧ s = .bool seen ∧ g = .bool ng ∧ d = .int .i64 (dd : Int) ∧ b = .bool big ∧ v = .int .u64 (vv : Int) ∧ dd ≤ k ∧ vv ≤ 4611686018427387904 ∧
    peTop bs = pe seen ng dd big vv (bs.drop k)

theorem beqT {b : UInt8} {n : Nat} (h : b.toNat = n) : ((b.toNat : Int) == (n : Int)) = true := by rw [h]; simp
theorem beqF {b : UInt8} {n : Nat} (h : b.toNat ≠ n) : ((b.toNat : Int) == (n : Int)) = false := by rw [beq_eq_false_iff_ne]; omega
theorem u8n (b : UInt8) (n : Nat) (hn : n < 256) : b = UInt8.ofNat n ↔ b.toNat = n := by
  rw [← UInt8.toNat_inj, UInt8.toNat_ofNat']
  rw [Nat.mod_eq_of_lt (by simpa using hn)]

set_option maxHeartbeats 4000000 in
theorem parseExp_any (a : Option Addr) (n cap : Nat) (bs : List UInt8) (w : World) (hn : bs.length = n) (hmax : n ≤ 65536) (hs : BAt w a bs) :
    Calls Tryd.prog 12 #[.slice a n cap] w fun e w' => e = expRes (peTop bs) ∧ w' = w := by
  subst hn
  go_enter Tryd.func12, Tryd.ntmps12
  go_wp2
  go_loop [4, 5, 6, 7, 8, 9] (fun s g d b v i => PRel bs s g d b v i) (fun _ _ _ _ _ i => bs.length - (intOf i).toNat)
  case atStart => exact ⟨0, 0, 0, false, false, false, Nat.zero_le _, rfl, rfl, rfl, rfl, rfl, rfl, Nat.le_refl _, by omega, rfl⟩
  case round =>
    obtain ⟨k, dd, vv, seen, ng, big, hk, rfl, rfl, rfl, rfl, rfl, rfl, hdk, hv, hpe⟩ := hrel
    by_cases hlt : k < bs.length
    · have hbk : bs[k]? = some (bs[k]) := by simp [hlt]
      have hdrop : bs.drop k = bs[k] :: bs.drop (k + 1) := List.drop_eq_getElem_cons hlt
      generalize bs[k] = c at *
      obtain ⟨g, off, rfl, hcell⟩ := hs k c hbk
      rw [hdrop] at hpe
      have e95 : c = 95 ↔ c.toNat = 95 := u8n c 95 (by omega)
      have e43 : c = 43 ↔ c.toNat = 43 := u8n c 43 (by omega)
      have e45 : c = 45 ↔ c.toNat = 45 := u8n c 45 (by omega)
      simp only [pe] at hpe
      by_cases h95 : c.toNat = 95
      · rw [if_pos (e95.2 h95)] at hpe
        have HN : Hid _ := hpe
        have b95 : ((c.toNat : Int) == 95) = true := beqT h95
        clear hpe h95 e95 e43 e45 hdrop
        go_wp2
        go_round
        case rel => exact ⟨k + 1, dd, vv, seen, ng, big, by omega, by go_num, rfl, rfl, rfl, rfl, rfl, by omega, hv, HN.out⟩
        case measure => simp [intOf]; omega
      · rw [if_neg (fun h => h95 (e95.1 h))] at hpe
        have b95 : ((c.toNat : Int) == 95) = false := beqF h95
        cases seen with
        | false =>
          by_cases h43 : c.toNat = 43
          · rw [if_pos ⟨rfl, .inl (e43.2 h43)⟩, decide_eq_false (fun h => by have := e45.1 h; omega)] at hpe
            have HN : Hid _ := hpe
            have b43 : ((c.toNat : Int) == 43) = true := beqT h43
            have b45 : ((c.toNat : Int) == 45) = false := beqF (b := c) (n := 45) (by omega)
            clear hpe h95 h43 e95 e43 e45 hdrop
            go_wp2
            go_round
            case rel => exact ⟨k + 1, dd, vv, true, false, big, by omega, by go_num, rfl, rfl, rfl, rfl, rfl, by omega, hv, HN.out⟩
            case measure => simp [intOf]; omega
          · have b43 : ((c.toNat : Int) == 43) = false := beqF h43
            by_cases h45 : c.toNat = 45
            · rw [if_pos ⟨rfl, .inr (e45.2 h45)⟩, decide_eq_true (e45.2 h45)] at hpe
              have HN : Hid _ := hpe
              have b45 : ((c.toNat : Int) == 45) = true := beqT h45
              clear hpe h95 h43 h45 e95 e43 e45 hdrop
              go_wp2
              go_round
              case rel => exact ⟨k + 1, dd, vv, true, true, big, by omega, by go_num, rfl, rfl, rfl, rfl, rfl, by omega, hv, HN.out⟩
              case measure => simp [intOf]; omega
            · have b45 : ((c.toNat : Int) == 45) = false := beqF h45
              rw [if_neg (fun h => h.2.elim (fun h => h43 (e43.1 h)) (fun h => h45 (e45.1 h)))] at hpe
              clear h43 h45
              by_cases hdig : 48 ≤ c.toNat ∧ c.toNat ≤ 57
              · have s48 : ((c.toNat : Int) < 48) = False := by simp; omega
                have s57 : ((57 : Int) < (c.toNat : Int)) = False := by simp; omega
                obtain ⟨d, hd⟩ : ∃ d, c.toNat = d + 48 := ⟨c.toNat - 48, by omega⟩
                have hd9 : d ≤ 9 := by omega
                have hsub : c.toNat - 48 = d := by omega
                rw [if_neg (show ¬ (c.toNat < 48 ∨ 57 < c.toNat) by omega), hsub] at hpe
                have w8 : IntKind.u8.wrap ((c.toNat : Int) - 48) = (d : Int) := by rw [hd]; rw [IntWalk.u8_in _ ⟨by omega, by omega⟩]; omega
                cases big with
                | true =>
                  rw [if_pos rfl] at hpe
                  have HN : Hid _ := hpe
                  clear hpe hsub hd e95 e43 e45 hdrop h95
                  go_wp2
                  go_round
                  case rel => exact ⟨k + 1, dd + 1, vv, true, ng, true, by omega, by go_num, rfl, rfl, by go_num, rfl, rfl, by omega, hv, HN.out⟩
                  case measure => simp [intOf]; omega
                | false =>
                  rw [if_neg (show ¬ (false = true) by simp)] at hpe
                  by_cases hover : (4611686018427387904 - d) / 10 < vv
                  · rw [if_pos hover] at hpe
                    have HN : Hid _ := hpe
                    clear hpe hsub hd e95 e43 e45 hdrop h95
                    go_wp2
                    go_round
                    case rel => exact ⟨k + 1, dd + 1, vv, true, ng, true, by omega, by go_num, rfl, rfl, by go_num, rfl, rfl, by omega, hv, HN.out⟩
                    case measure => simp [intOf]; omega
                  · rw [if_neg hover] at hpe
                    have HN : Hid _ := hpe
                    clear hpe hsub hd e95 e43 e45 hdrop h95
                    go_wp2
                    go_round
                    case rel => exact ⟨k + 1, dd + 1, vv * 10 + d, true, ng, false, by omega, by go_num, rfl, rfl, by go_num, rfl, by go_num, by omega, by omega, HN.out⟩
                    case measure => simp [intOf]; omega
              · rw [if_pos (show c.toNat < 48 ∨ 57 < c.toNat by omega)] at hpe
                have HN : Hid _ := hpe
                by_cases h48 : c.toNat < 48
                · have s48 : (c.toNat : Int) < 48 := by omega
                  clear hpe e95 e43 e45 hdrop h95
                  go_wp2
                  go_ret2
                  exact ⟨by rw [HN.out]; rfl, rfl⟩
                · have s48 : ((c.toNat : Int) < 48) = False := by simp; omega
                  have s57 : (57 : Int) < (c.toNat : Int) := by omega
                  clear hpe e95 e43 e45 hdrop h95
                  go_wp2
                  go_ret2
                  exact ⟨by rw [HN.out]; rfl, rfl⟩
        | true =>
          rw [if_neg (show ¬ (true = false ∧ (c = 43 ∨ c = 45)) from fun h => by cases h.1)] at hpe
          by_cases hdig : 48 ≤ c.toNat ∧ c.toNat ≤ 57
          · have s48 : ((c.toNat : Int) < 48) = False := by simp; omega
            have s57 : ((57 : Int) < (c.toNat : Int)) = False := by simp; omega
            obtain ⟨d, hd⟩ : ∃ d, c.toNat = d + 48 := ⟨c.toNat - 48, by omega⟩
            have hd9 : d ≤ 9 := by omega
            have hsub : c.toNat - 48 = d := by omega
            rw [if_neg (show ¬ (c.toNat < 48 ∨ 57 < c.toNat) by omega), hsub] at hpe
            have w8 : IntKind.u8.wrap ((c.toNat : Int) - 48) = (d : Int) := by rw [hd]; rw [IntWalk.u8_in _ ⟨by omega, by omega⟩]; omega
            cases big with
            | true =>
              rw [if_pos rfl] at hpe
              have HN : Hid _ := hpe
              clear hpe hsub hd e95 e43 e45 hdrop h95
              go_wp2
              go_round
              case rel => exact ⟨k + 1, dd + 1, vv, true, ng, true, by omega, by go_num, rfl, rfl, by go_num, rfl, rfl, by omega, hv, HN.out⟩
              case measure => simp [intOf]; omega
            | false =>
              rw [if_neg (show ¬ (false = true) by simp)] at hpe
              by_cases hover : (4611686018427387904 - d) / 10 < vv
              · rw [if_pos hover] at hpe
                have HN : Hid _ := hpe
                clear hpe hsub hd e95 e43 e45 hdrop h95
                go_wp2
                go_round
                case rel => exact ⟨k + 1, dd + 1, vv, true, ng, true, by omega, by go_num, rfl, rfl, by go_num, rfl, rfl, by omega, hv, HN.out⟩
                case measure => simp [intOf]; omega
              · rw [if_neg hover] at hpe
                have HN : Hid _ := hpe
                clear hpe hsub hd e95 e43 e45 hdrop h95
                go_wp2
                go_round
                case rel => exact ⟨k + 1, dd + 1, vv * 10 + d, true, ng, false, by omega, by go_num, rfl, rfl, by go_num, rfl, by go_num, by omega, by omega, HN.out⟩
                case measure => simp [intOf]; omega
          · rw [if_pos (show c.toNat < 48 ∨ 57 < c.toNat by omega)] at hpe
            have HN : Hid _ := hpe
            by_cases h48 : c.toNat < 48
            · have s48 : (c.toNat : Int) < 48 := by omega
              clear hpe e95 e43 e45 hdrop h95
              go_wp2
              go_ret2
              exact ⟨by rw [HN.out]; rfl, rfl⟩
            · have s48 : ((c.toNat : Int) < 48) = False := by simp; omega
              have s57 : (57 : Int) < (c.toNat : Int) := by omega
              clear hpe e95 e43 e45 hdrop h95
              go_wp2
              go_ret2
              exact ⟨by rw [HN.out]; rfl, rfl⟩
    · have hkn : k = bs.length := by omega
      subst hkn
      rw [List.drop_length] at hpe
      simp only [pe] at hpe
      by_cases hd0 : dd = 0
      · have b0 : ((dd : Int) == 0) = true := by rw [hd0]; rfl
        simp only [hd0, true_or, if_true] at hpe
        have HP : Hid _ := hpe
        clear hpe hd0
        go_wp2
        go_ret2
        exact ⟨by rw [HP.out]; rfl, rfl⟩
      · have b0 : ((dd : Int) == 0) = false := by rw [beq_eq_false_iff_ne]; omega
        cases big with
        | true =>
          simp only [or_true, if_true] at hpe
          have HP : Hid _ := hpe
          clear hpe hd0
          go_wp2
          go_ret2
          exact ⟨by rw [HP.out]; rfl, rfl⟩
        | false =>
          rw [if_neg (by simp [hd0])] at hpe
          cases ng with
          | true =>
            have HP : Hid _ := hpe
            clear hpe hd0
            go_wp2
            go_ret2
            refine ⟨?_, rfl⟩
            rw [HP.out]
            simp [expRes]
          | false =>
            have HP : Hid _ := hpe
            clear hpe hd0
            go_wp2
            go_ret2
            refine ⟨?_, rfl⟩
            rw [HP.out]
            simp [expRes]

end Go.Proofs.Qxb6600715aDoor
