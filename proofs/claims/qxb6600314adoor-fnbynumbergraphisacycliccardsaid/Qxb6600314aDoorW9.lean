/-
  Seat b6600314aD: ZZbyNumber, sameLists. By an AI agent (seat 043).
-/
import Derived.Test.Qxb6600314aDoorW8
set_option linter.unusedSimpArgs false
set_option linter.unusedVariables false
namespace Go.Proofs.Qxb6600314aDoor
open Go.RowKit

set_option maxHeartbeats 400000 in
theorem zzbyNumber_any (sb so n sc : Nat) (ids : List Id3) (w : World) (hn : ids.length = n) (hn2 : n ≤ 1024) (hs : SprAt w sb so ids) :
    Calls Tryd.prog 9 #[.slice (some ⟨sb, so, none⟩) n sc] w fun e w' => CutRes [] w (byNum (keyAt (fun i => canon i.p) ids) (keyAt (fun i => i.l) ids) (keyAt (fun i => canon i.s) ids) n) e w' := by
  go_enter Tryd.func9, Tryd.ntmps9
  go_wp2_with fail
  refine (byNumber_any sb so n sc ids w hn hn2 hs).mono ?_
  rintro e w' ⟨a, cap, xs, rfl, h1, h2, h3⟩
  go_wp2
  go_ret
  exact ⟨a, cap, xs, rfl, h1, h2, h3⟩

theorem take_eq_succ {A B : List (List Nat)} {i : Nat} {x y : List Nat} (h : A.take i = B.take i) (hx : A[i]? = some x) (hy : B[i]? = some y) (e : x = y) : A.take (i + 1) = B.take (i + 1) := by
  rw [List.take_add_one, List.take_add_one, h, hx, hy, e]
theorem take_eq_succ' {A B : List Nat} {i : Nat} {x y : Nat} (h : A.take i = B.take i) (hx : A[i]? = some x) (hy : B[i]? = some y) (e : x = y) : A.take (i + 1) = B.take (i + 1) := by
  rw [List.take_add_one, List.take_add_one, h, hx, hy, e]

theorem Sees.quiet {w : World} {X : List Nat} {a : Option Addr} {xs : List Value} (h : Sees w X a xs) {w' : World} (hq : Quiet w w') : Sees w' X a xs := by
  obtain ⟨n, rfl⟩ := hq
  exact h
theorem RowsSee.quiet {w : World} {X : List Nat} {xs : List Value} {R : List (List Nat)} (h : RowsSee w X xs R) {w' : World} (hq : Quiet w w') : RowsSee w' X xs R := by
  obtain ⟨n, rfl⟩ := hq
  exact h
theorem Quiet.drewN {w w' : World} (h : Quiet w w') (n : Nat) : Quiet w (w'.drewN n) := by
  obtain ⟨m, rfl⟩ := h
  exact ⟨m + n, World.drewN_drewN _ _ _⟩

def SLRel (A B : List (List Nat)) (w : World) (i : Value) (wr : World) : Prop :=
  ∃ k : Nat, k ≤ A.length ∧ i = .int .i64 (k : Int) ∧ A.take k = B.take k ∧ Quiet w wr
def SLIn (x y : List Nat) (w : World) (i : Value) (wr : World) : Prop :=
  ∃ k : Nat, k ≤ x.length ∧ i = .int .i64 (k : Int) ∧ x.take k = y.take k ∧ Quiet w wr

set_option maxHeartbeats 2000000 in
theorem sameLists_any (a b : Option Addr) (ca cb : Nat) (xs ys : List Value) (A B : List (List Nat)) (w : World) (hA : A.length ≤ 1024) (hB : B.length ≤ 1024) (hAl : ∀ x ∈ A, x.length ≤ 1024 * 1024) (hBl : ∀ x ∈ B, x.length ≤ 1024 * 1024)
    (ha : Sees w [] a xs) (hra : RowsSee w [] xs A) (hb : Sees w [] b ys) (hrb : RowsSee w [] ys B) :
    Calls Tryd.prog 11 #[.slice a A.length ca, .slice b B.length cb] w fun e w' => e = .returned (.bool (decide (A = B))) ∧ Quiet w w' := by
  by_cases hlen : A.length = B.length
  · have hnb : ((A.length : Int) != (B.length : Int)) = false := by rw [bne_eq_false_iff_eq]; omega
    go_enter Tryd.func11, Tryd.ntmps11
    go_wp2
    go_loopw [5] (fun i wr => SLRel A B w i wr) (fun i _ => A.length - (intOf i).toNat)
    case atStart => exact ⟨0, Nat.zero_le _, rfl, rfl, ⟨0, rfl⟩⟩
    case round =>
      rename World => W0
      obtain ⟨k, hk, rfl, htake, hq⟩ := hrel
      by_cases hlt : k < A.length
      · have hxg : A[k]? = some (A[k]) := by simp [hlt]
        have hyg : B[k]? = some (B[k]'(by omega)) := by rw [List.getElem?_eq_getElem]
        have hxl : A[k].length ≤ 1024 * 1024 := hAl _ (List.getElem_mem _)
        have hyl : (B[k]'(by omega)).length ≤ 1024 * 1024 := hBl _ (List.getElem_mem _)
        have hfalse : A[k] ≠ (B[k]'(by omega)) → decide (A = B) = false := fun h => by
          rw [decide_eq_false_iff_not]
          intro e
          apply h
          have e2 : A[k]? = B[k]? := by rw [e]
          rw [hxg, hyg] at e2
          exact Option.some.inj e2
        generalize A[k] = x at *
        generalize B[k]'(by omega) = y at *
        obtain ⟨ax, cx, hx1, hx2, hx3⟩ := (hra.quiet hq).2 k x hxg
        obtain ⟨ay, cy, hy1, hy2, hy3⟩ := (hrb.quiet hq).2 k y hyg
        obtain ⟨bA, oA, rfl, _, hcA⟩ := (ha.quiet hq) k _ hx1
        obtain ⟨bB, oB, rfl, _, hcB⟩ := (hb.quiet hq) k _ hy1
        have i1 : (k : Int) < (A.length : Int) := by omega
        have i2 : (k : Int) < (B.length : Int) := by omega
        have i3 : (0 : Int) ≤ (k : Int) := by omega
        have HF : Hid _ := hfalse
        have HT : Hid _ := htake
        clear hfalse htake hAl hBl
        by_cases hxy : x.length = y.length
        · have hnb2 : ((x.length : Int) != (y.length : Int)) = false := by rw [bne_eq_false_iff_eq]; omega
          have HXY : Hid _ := hxy
          clear hxy
          go_wp2
          go_quiet (fail)
          go_wp2
          go_loopw [6] (fun i wr => SLIn x y w i wr) (fun i _ => x.length - (intOf i).toNat)
          case atStart => exact ⟨0, Nat.zero_le _, rfl, rfl, hq.drewN nq⟩
          case round =>
            rename World => W1
            obtain ⟨q, hql, rfl, htq, hq1⟩ := hrel
            clear hcA hcB hx3 hy3 hx1 hy1
            obtain ⟨ax', cx', hx1, hx2', hx3⟩ := (hra.quiet hq1).2 k x hxg
            obtain ⟨ay', cy', hy1, hy2', hy3⟩ := (hrb.quiet hq1).2 k y hyg
            obtain ⟨bA', oA', eA, _, hcA⟩ := (ha.quiet hq1) k _ hx1
            obtain ⟨bB', oB', eB, _, hcB⟩ := (hb.quiet hq1) k _ hy1
            cases eA
            cases eB
            by_cases hltq : q < x.length
            · have hltq2 : q < y.length := by rw [← HXY.out]; exact hltq
              have hxq : x[q]? = some (x[q]) := by simp [hltq]
              have hyq : y[q]? = some (y[q]) := by rw [List.getElem?_eq_getElem]
              have hne : x[q] ≠ y[q] → x ≠ y := fun h e => by
                apply h
                have e2 : x[q]? = y[q]? := by rw [e]
                rw [hxq, hyq] at e2
                exact Option.some.inj e2
              generalize x[q] = u at *
              generalize y[q] = v at *
              obtain ⟨b1, o1, rfl, _, hc1⟩ := hx3 q _ (ints_get hxq)
              obtain ⟨b2, o2, rfl, _, hc2⟩ := hy3 q _ (ints_get hyq)
              have j1 : (q : Int) < (x.length : Int) := by omega
              have j2 : (q : Int) < (y.length : Int) := by omega
              have j3 : (0 : Int) ≤ (q : Int) := by omega
              have HTQ : Hid _ := htq
              clear htq
              by_cases huv : u = v
              · have hb0 : ((u : Int) != (v : Int)) = false := by rw [bne_eq_false_iff_eq]; omega
                have HN : Hid _ := take_eq_succ' HTQ.out hxq hyq huv
                clear huv hne
                go_wp2
                go_quiet (fail)
                go_wp2
                go_roundw
                case rel => exact ⟨q + 1, by omega, by go_num, HN.out, hq1.drewN nq⟩
                case measure => simp [intOf]; omega
              · have hb0 : ((u : Int) != (v : Int)) = true := by rw [bne_iff_ne]; omega
                have HR : Hid (decide (A = B) = false) := HF.out (hne huv)
                clear huv hne
                go_wp2
                go_quiet (fail)
                go_wp2
                go_ret
                exact ⟨by rw [HR.out]; rfl, hq1.drewN nq⟩
            · have hqx : q = x.length := by omega
              have hxye : x = y := by
                rw [hqx, List.take_length, HXY.out, List.take_length] at htq
                exact htq
              have HN : Hid _ := take_eq_succ HT.out hxg hyg hxye
              clear hqx hxye htq
              go_wp2
              go_roundw
              case rel => exact ⟨k + 1, by omega, by go_num, HN.out, hq1⟩
              case measure => simp [intOf]; omega
        · have hnb2 : ((x.length : Int) != (y.length : Int)) = true := by rw [bne_iff_ne]; omega
          have HR : Hid (decide (A = B) = false) := HF.out (fun e => hxy (by rw [e]))
          clear hxy
          go_wp2
          go_quiet (fail)
          go_wp2
          go_ret
          exact ⟨by rw [HR.out]; rfl, hq.drewN nq⟩
      · have hkl : k = A.length := by omega
        subst hkl
        have hAB : decide (A = B) = true := by
          rw [List.take_length, hlen, List.take_length] at htake
          simpa using htake
        have HR : Hid _ := hAB
        clear hAB htake
        go_wp2
        go_ret
        exact ⟨by rw [HR.out]; rfl, hq⟩
  · have hnb : ((A.length : Int) != (B.length : Int)) = true := by rw [bne_iff_ne]; omega
    have hAB : decide (A = B) = false := by
      rw [decide_eq_false_iff_not]
      exact fun e => hlen (by rw [e])
    rw [hAB]
    clear hlen
    go_enter Tryd.func11, Tryd.ntmps11
    go_wp2
    go_ret
    exact ⟨rfl, ⟨0, rfl⟩⟩

end Go.Proofs.Qxb6600314aDoor
