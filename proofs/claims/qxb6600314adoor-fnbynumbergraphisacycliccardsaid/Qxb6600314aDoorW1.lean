/-
  Seat b6600314aD: walks of the law's guards: addStringBytes, idsBytes, zzBytes, and cloneStrings. By an AI agent (seat 043).
-/
import Derived.Test.Qxb6600314aDoorRows
import Derived.WalkKit
import Derived.WalkSpells
import Derived.WalkLawsBesides
import Derived.Handy
namespace Go.Proofs.Qxb6600314aDoor
open Go.RowKit

/-- A slice of strings in memory: the address, and the strings that its cells hold. -/
def StrAt (w : World) (a : Option Addr) (ss : List ByteArray) : Prop :=
  ∀ k s, ss[k]? = some s → ∃ b off, a = some ⟨b, off, none⟩ ∧ w.cell? ⟨b, off + k, none⟩ = some (.string s)

/-- The call hands back some bool. -/
def SomeBool (e : Ending) : Prop := ∃ r : Bool, e = .returned (.bool r)
/-- The call hands back some int. -/
def SomeInt (e : Ending) : Prop := ∃ r : Int, e = .returned (.int .i64 r)

set_option maxHeartbeats 400000 in
theorem addStringBytes_any (t : Int) (a : Option Addr) (n cap : Nat) (ss : List ByteArray) (w : World) (hn : ss.length = n) (hmax : n ≤ 9223372036854775807) (hs : StrAt w a ss) :
    Calls Tryd.prog 17 #[.int .i64 t, .slice a n cap] w fun e w' => SomeInt e ∧ w' = w := by
  go_enter Tryd.func17, Tryd.ntmps17
  go_wp2
  go_loop [0, 5] (fun u i => ∃ (x : Int) (k : Nat), k ≤ n ∧ u = .int .i64 x ∧ i = .int .i64 k) (fun _ i => n - (intOf i).toNat)
  case atStart => exact ⟨t, 0, Nat.zero_le _, rfl, rfl⟩
  case round =>
    obtain ⟨x, k, hk, rfl, rfl⟩ := hrel
    by_cases hlt : k < n
    · obtain ⟨b, off, ha, hcell⟩ := hs k (ss[k]'(by omega)) (by simp [hn, hlt])
      subst ha
      go_wp2
      all_goals first
        | (go_ret; exact ⟨⟨_, rfl⟩, rfl⟩)
        | (go_round; (case rel => exact ⟨_, k + 1, by omega, rfl, by go_num⟩); (case measure => simp [intOf]; omega))
    · go_wp2
      go_ret
      exact ⟨⟨_, rfl⟩, rfl⟩

set_option maxHeartbeats 400000 in
theorem idsBytes_any (a0 a1 a2 : Option Addr) (n0 n1 n2 c0 c1 c2 : Nat) (s0 s1 s2 : List ByteArray) (w : World)
    (h0 : s0.length = n0) (h1 : s1.length = n1) (h2 : s2.length = n2) (m0 : n0 ≤ 9223372036854775807) (m1 : n1 ≤ 9223372036854775807) (m2 : n2 ≤ 9223372036854775807)
    (g0 : StrAt w a0 s0) (g1 : StrAt w a1 s1) (g2 : StrAt w a2 s2) :
    Calls Tryd.prog 7 #[.slice a0 n0 c0, .slice a1 n1 c1, .slice a2 n2 c2] w fun e w' => SomeInt e ∧ w' = w := by
  go_enter Tryd.func7, Tryd.ntmps7
  go_wp2_with fail
  refine (addStringBytes_any 0 a0 n0 c0 s0 w h0 m0 g0).mono ?_
  rintro e w' ⟨⟨r, rfl⟩, rfl⟩
  go_wp2_with fail
  refine (addStringBytes_any r a1 n1 c1 s1 _ h1 m1 g1).mono ?_
  rintro e w' ⟨⟨r1, rfl⟩, rfl⟩
  go_wp2_with fail
  refine (addStringBytes_any r1 a2 n2 c2 s2 _ h2 m2 g2).mono ?_
  rintro e w' ⟨⟨r2, rfl⟩, rfl⟩
  go_wp2
  go_ret
  exact ⟨⟨_, rfl⟩, rfl⟩

set_option maxHeartbeats 1000000 in
theorem zzBytes_any (a0 a1 a2 : Option Addr) (n0 n1 n2 c0 c1 c2 : Nat) (s0 s1 s2 : List ByteArray) (w : World)
    (h0 : s0.length = n0) (h1 : s1.length = n1) (h2 : s2.length = n2) (m0 : n0 ≤ 9223372036854775807) (m1 : n1 ≤ 9223372036854775807) (m2 : n2 ≤ 9223372036854775807)
    (g0 : StrAt w a0 s0) (g1 : StrAt w a1 s1) (g2 : StrAt w a2 s2) :
    Calls Tryd.prog 6 #[.slice a0 n0 c0, .slice a1 n1 c1, .slice a2 n2 c2] w fun e w' => SomeBool e ∧ w' = w := by
  go_enter Tryd.func6, Tryd.ntmps6
  go_wp2
  all_goals try (go_ret; exact ⟨⟨_, rfl⟩, rfl⟩)
  go_loop [7, 8] (fun u i => ∃ (x : Int) (k : Nat), k ≤ n0 ∧ 0 ≤ x ∧ x ≤ 1048576 ∧ u = .int .i64 x ∧ i = .int .i64 k) (fun _ i => n0 - (intOf i).toNat)
  case atStart => exact ⟨_, 0, Nat.zero_le _, by omega, by omega, rfl, rfl⟩
  case round =>
    obtain ⟨x, k, hk, hx0, hx1, rfl, rfl⟩ := hrel
    by_cases hlt : k < n0
    · obtain ⟨b, off, ha, hcell⟩ := g0 k (s0[k]'(by omega)) (by simp [h0, hlt])
      subst ha
      go_wp2
      all_goals first
        | (go_ret; exact ⟨⟨_, rfl⟩, rfl⟩)
        | (go_round; (case rel => exact ⟨_, k + 1, by omega, by omega, by omega, rfl, by go_num⟩); (case measure => simp [intOf]; omega))
    · go_wp2
      all_goals try (go_ret; exact ⟨⟨_, rfl⟩, rfl⟩)
      go_loop [7, 9] (fun u i => ∃ (x : Int) (k : Nat), k ≤ n1 ∧ 0 ≤ x ∧ x ≤ 1048576 ∧ u = .int .i64 x ∧ i = .int .i64 k) (fun _ i => n1 - (intOf i).toNat)
      case atStart => exact ⟨_, 0, Nat.zero_le _, by omega, by omega, rfl, rfl⟩
      case round =>
        obtain ⟨x, k, hk, hx0, hx1, rfl, rfl⟩ := hrel
        by_cases hlt : k < n1
        · obtain ⟨b, off, ha, hcell⟩ := g1 k (s1[k]'(by omega)) (by simp [h1, hlt])
          subst ha
          go_wp2
          all_goals first
            | (go_ret; exact ⟨⟨_, rfl⟩, rfl⟩)
            | (go_round; (case rel => exact ⟨_, k + 1, by omega, by omega, by omega, rfl, by go_num⟩); (case measure => simp [intOf]; omega))
        · go_wp2
          all_goals try (go_ret; exact ⟨⟨_, rfl⟩, rfl⟩)
          go_loop [7, 10] (fun u i => ∃ (x : Int) (k : Nat), k ≤ n2 ∧ 0 ≤ x ∧ x ≤ 1048576 ∧ u = .int .i64 x ∧ i = .int .i64 k) (fun _ i => n2 - (intOf i).toNat)
          case atStart => exact ⟨_, 0, Nat.zero_le _, by omega, by omega, rfl, rfl⟩
          case round =>
            obtain ⟨x, k, hk, hx0, hx1, rfl, rfl⟩ := hrel
            by_cases hlt : k < n2
            · obtain ⟨b, off, ha, hcell⟩ := g2 k (s2[k]'(by omega)) (by simp [h2, hlt])
              subst ha
              go_wp2
              all_goals first
                | (go_ret; exact ⟨⟨_, rfl⟩, rfl⟩)
                | (go_round; (case rel => exact ⟨_, k + 1, by omega, by omega, by omega, rfl, by go_num⟩); (case measure => simp [intOf]; omega))
            · go_wp2
              all_goals try (go_ret; exact ⟨⟨_, rfl⟩, rfl⟩)
end Go.Proofs.Qxb6600314aDoor
