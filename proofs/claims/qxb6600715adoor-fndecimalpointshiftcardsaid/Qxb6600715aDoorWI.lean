/-
  Seat b6600715aD: the walk of zzItoa. By an AI agent (seat 043).
-/
import Derived.Test.Qxb6600715aDoorW4
import Derived.Test.Qxb6600715aDoorPl2
import Derived.Deep.Cut
import Derived.Deep.DeepCutAuto
set_option linter.unusedSimpArgs false
set_option linter.unusedVariables false
namespace Go.Proofs.Qxb6600715aDoor
open Go.RowKit

theorem digs_len : ∀ (k u : Nat), u < 10 ^ (k + 1) → (digs u).length ≤ k + 1 := by
  intro k
  induction k with
  | zero => intro u h; rw [digs_small u (by simpa using h)]; simp
  | succ k ih =>
    intro u h
    by_cases h10 : u < 10
    · rw [digs_small u h10]; simp
    · rw [digs_big u h10, List.length_append]
      have := ih (u / 10) (by rw [Nat.pow_succ] at h; omega)
      simp; omega

/-- The buffer: zeros, then the digits. -/
def bufOf (i : Nat) (ds : List UInt8) : Array Value := (List.replicate i (Value.int .u8 0) ++ byteVals ds).toArray
theorem buf_set (i : Nat) (ds : List UInt8) (c : UInt8) : (bufOf (i + 1) ds).setIfInBounds i (.int .u8 (c.toNat : Int)) = bufOf i (c :: ds) := by
  unfold bufOf
  rw [List.setIfInBounds_toArray, List.replicate_succ', List.append_assoc, List.set_append_right _ _ (by simp)]
  simp [byteVals]
theorem buf_size (i : Nat) (ds : List UInt8) : (bufOf i ds).size = i + ds.length := by simp [bufOf, byteVals]
theorem buf_start : bufOf 24 [] = #[.int .u8 0, .int .u8 0, .int .u8 0, .int .u8 0, .int .u8 0, .int .u8 0, .int .u8 0, .int .u8 0, .int .u8 0, .int .u8 0, .int .u8 0, .int .u8 0, .int .u8 0, .int .u8 0, .int .u8 0, .int .u8 0, .int .u8 0, .int .u8 0, .int .u8 0, .int .u8 0, .int .u8 0, .int .u8 0, .int .u8 0, .int .u8 0] := rfl

def IRel (w : World) (U : Nat) (v4 v6 : Value) (wr : World) : Prop :=
  ∃ (u i : Nat) (ds : List UInt8), v4 = .int .u64 (u : Int) ∧ v6 = .int .i64 (i : Int) ∧ i + ds.length = 24 ∧ digs U = digs u ++ ds ∧ u ≤ U ∧ wr = w.alloc (.cells (bufOf i ds) 40)

theorem buf_get (j : Nat) (ds : List UInt8) : (bufOf (j + 1) ds)[j]? = some (.int .u8 0) := by
  unfold bufOf
  rw [List.getElem?_toArray, List.getElem?_append_left (by simp)]
  simp
theorem buf_at (w : World) (i : Nat) (ds : List UInt8) : BAt (w.alloc (.cells (bufOf i ds) 40)) (some ⟨w.heap.size, i, none⟩) ds := by
  intro k b hk
  refine ⟨_, _, rfl, ?_⟩
  have hb : (w.alloc (.cells (bufOf i ds) 40)).heap[w.heap.size]? = some (.cells (bufOf i ds) 40) := heap_alloc_new w _
  simp only [World.cell?, hb]
  unfold bufOf
  rw [List.getElem?_toArray, List.getElem?_append_right (by simp)]
  simpa using byteVals_get hk
/-- Behind the sign. -/
def ICut (w : World) (v : Int) (v6 : Value) (wx : World) : Prop :=
  ∃ i : Nat, v6 = .int .i64 (i : Int) ∧ i + (itoa v).length = 24 ∧ BAt wx (some ⟨w.heap.size, i, none⟩) (itoa v) ∧ Below w.heap.size w wx
/-- Ahead of the buffer. -/
def UCut (w : World) (U : Nat) (v4 : Value) (wx : World) : Prop := v4 = .int .u64 (U : Int) ∧ wx = w

set_option maxRecDepth 100000 in
set_option maxHeartbeats 4000000 in
theorem itoa_any (v : Int) (w : World) (h1 : -4611686018427387904 ≤ v) (h2 : v ≤ 4611686018427387904) :
    Calls Tryd.prog 15 #[.int .i64 v] w fun e w' => NewB w (itoa v) e w' := by
  obtain ⟨i0, hi, hz0, hz1, hz2⟩ := info_parts info5
  have hU : v.natAbs ≤ 4611686018427387904 := by omega
  generalize hUg : v.natAbs = U at *
  have hlen : (digs U).length ≤ 19 := digs_len 18 U (by omega)
  go_enter Tryd.func15, Tryd.ntmps15
  go_upto_if 10 with fail
  generalize hng : decide (v < 0) = ng
  have HNG : Hid (decide (v < 0) = ng) := hng
  have HUG : Hid (v.natAbs = U) := hUg
  clear hng hUg
  go_cut [4] (fun v4 wx => UCut w U v4 wx)
  case first =>
    have HREL : Hid (UCut w U (.int .u64 (U : Int)) w) := ⟨rfl, rfl⟩
    have hu := HUG.out
    cases ng with
    | true =>
      have hv : v < 0 := by simpa using HNG.out
      have e1 : IntKind.i64.wrap (v + 1) = v + 1 := IntWalk.i64_in _ ⟨by omega, by omega⟩
      have e2 : IntKind.i64.wrap (-(v + 1)) = -(v + 1) := IntWalk.i64_in _ ⟨by omega, by omega⟩
      have e3 : IntKind.u64.wrap (-(v + 1)) = -(v + 1) := IntWalk.u64_in _ ⟨by omega, by omega⟩
      have e4 : IntKind.u64.wrap (-(v + 1) + 1) = (U : Int) := by rw [IntWalk.u64_in _ ⟨by omega, by omega⟩]; omega
      clear hu hlen
      go_wp2
      go_meet
      exact HREL.out
    | false =>
      have hv : ¬ v < 0 := by simpa using HNG.out
      have e3 : IntKind.u64.wrap v = (U : Int) := by rw [IntWalk.u64_in _ ⟨by omega, by omega⟩]; omega
      clear hu hlen
      go_wp2
      go_meet
      exact HREL.out
  case rest =>
    obtain ⟨rfl, rfl⟩ := hcut
    go_wp2
    rw [← buf_start]
    rename World => WB
    go_loopw [4, 6] (fun v4 v6 wr => IRel WB U v4 v6 wr) (fun _ i _ => (intOf i).toNat)
    case atStart => exact ⟨U, 24, [], rfl, rfl, rfl, by simp, Nat.le_refl _, rfl⟩
    case round =>
      rename World => W0
      obtain ⟨u, i, ds, rfl, rfl, hil, hds, huU, rfl⟩ := hrel
      have hip : 1 ≤ i := by
        have := congrArg List.length hds
        rw [List.length_append] at this
        omega
      obtain ⟨j, rfl⟩ : ∃ j, i = j + 1 := ⟨i - 1, by omega⟩
      have hset := buf_set j ds (dg u)
      have hget := buf_get j ds
      have hdg := dg_nat u
      have e1 : IntKind.i64.wrap (((j + 1 : Nat) : Int) - 1) = (j : Int) := by rw [IntWalk.i64_in _ ⟨by omega, by omega⟩]; omega
      have e2 : IntKind.u64.wrap (48 + (u : Int) % 10) = 48 + (u : Int) % 10 := IntWalk.u64_in _ ⟨by omega, by omega⟩
      have e3 : IntKind.u8.wrap (48 + (u : Int) % 10) = ((dg u).toNat : Int) := by rw [IntWalk.u8_in _ ⟨by omega, by omega⟩]; omega
      by_cases h10 : u < 10
      · have d0 : ((u : Int) / 10 == 0) = true := by rw [beq_iff_eq]; omega
        have HDS : Hid (digs U = dg u :: ds) := by
          show _ = _
          rw [hds, digs_small u h10]
          rfl
        clear hds hdg
        have hj5 : 5 ≤ j := by
          have := congrArg List.length HDS.out
          rw [List.length_cons] at this
          omega
        go_upto_if 30 with fail
        clear hset hget
        go_cut [6] (fun v6 wx => ICut WB v v6 wx)
        case first =>
          cases ng with
          | true =>
            have hv : v < 0 := by simpa using HNG.out
            have hit : itoa v = 45 :: dg u :: ds := by unfold itoa; rw [if_pos hv, HUG.out, HDS.out]
            obtain ⟨q, rfl⟩ : ∃ q, j = q + 1 := ⟨j - 1, by omega⟩
            have hset := buf_set q (dg u :: ds) 45
            have hget := buf_get q (dg u :: ds)
            have HREL : Hid (ICut WB v (.int .i64 (q : Int)) (WB.alloc (.cells (bufOf q (45 :: dg u :: ds)) 40))) := ⟨q, rfl, by rw [hit]; simp; omega, by rw [hit]; exact buf_at _ _ _, (Below.refl _ _).alloc (Nat.le_refl _) _⟩
            have e5 : IntKind.i64.wrap (((q + 1 : Nat) : Int) - 1) = (q : Int) := by rw [IntWalk.i64_in _ ⟨by omega, by omega⟩]; omega
            have e45 : (Value.int .u8 ((45 : UInt8).toNat : Int)) = .int .u8 45 := rfl
            rw [e45] at hset
            clear hv hit d0 e1 e2 e3 h10
            go_wp2
            go_meet
            exact HREL.out
          | false =>
            have hv : ¬ v < 0 := by simpa using HNG.out
            have hit : itoa v = dg u :: ds := by unfold itoa; rw [if_neg hv, HUG.out, HDS.out]
            have HREL : Hid (ICut WB v (.int .i64 (j : Int)) (WB.alloc (.cells (bufOf j (dg u :: ds)) 40))) := ⟨j, rfl, by rw [hit]; simp; omega, by rw [hit]; exact buf_at _ _ _, (Below.refl _ _).alloc (Nat.le_refl _) _⟩
            clear hv hit d0 e1 e2 e3 h10
            go_wp2
            go_meet
            exact HREL.out
        case rest =>
          obtain ⟨i, rfl, hin, hat, hbw⟩ := hcut
          generalize hit : itoa v = xs at *
          clear d0 e1 e2 e3 h10 HDS
          have hpos : 0 < xs.length := by
            rw [← hit]; unfold itoa
            split
            · simp
            · exact List.length_pos_iff.2 (digs_ne _)
          have HIT : Hid (itoa v = xs) := hit
          clear hit
          have hi24 : (i : Int) ≤ 24 := by omega
          have hi0 : (0 : Int) ≤ (i : Int) := by omega
          have hne24 : ¬ 24 = i := by omega
          have h24 : 24 - i = xs.length := by omega
          have e7 : IntKind.i64.wrap (24 - (i : Int)) = ((xs.length : Nat) : Int) := by rw [IntWalk.i64_in _ ⟨by omega, by omega⟩]; omega
          go_wp2_with (first
            | (at_make; refine wpList_make_full _ rfl _ _ 22 rfl _ 5 i0 (.int .u8 0) 1 Tryd.underlying22 hi hz0 hz1 .i64 .i64 _ _ xs.length rfl rfl (by omega) (by omega) (by rw [hz2]; omega) (by unfold maxLen; omega) (Nat.le_refl _) ?_; intro w1 hown hgrow; have hb1 : Below wc.heap.size wc w1 := (Below.refl _ _).grown hgrow (Nat.le_refl _) (fun k h => by cases h); obtain ⟨hblk, hlen1⟩ := made_block hown; clear hown hgrow)
            | (refine wpList_copy_splice rfl (.tmp 38) (.tmp 40) 22 22 rfl 5 Tryd.underlying22 size5 _ _ _ _ _ _ rfl rfl wc.heap.size 0 _ 5 hblk (byteVals xs) (by rw [byteVals_len]; exact (Nat.min_self _).symm) (fun _ => ⟨rfl, _, rfl, BAt.src (hat.later hb1)⟩) (by rw [byteVals_len, hlen1]; omega) (bytes_one xs) wc.heap.size wc hb1 (Nat.le_refl _) ?_; intro w2 hblk2 hb2))
          have hb3 := hblk2.out
          rw [splice_all _ _ (by rw [hlen1, byteVals_len])] at hb3
          have ho := owns_of_block (base := wc.heap.size) (byteVals_len xs) (Nat.le_refl _) (by unfold maxLen; omega) hb3
          obtain ⟨a1, c1, e1, hc1, hc2, hat1⟩ := BAt.of_owns ho
          cases e1
          go_ret
          show NewB _ _ _ _
          rw [HIT.out]
          exact ⟨_, _, rfl, hc1, hc2, hat1, below_step hbw hb2⟩
      · have d0 : ((u : Int) / 10 == 0) = false := by rw [beq_eq_false_iff_ne]; omega
        have HREL : Hid (IRel WB U (.int .u64 ((u / 10 : Nat) : Int)) (.int .i64 (j : Int)) (WB.alloc (.cells (bufOf j (dg u :: ds)) 40))) := ⟨u / 10, j, dg u :: ds, rfl, rfl, by simp; omega, by rw [hds, digs_big u h10, List.append_assoc]; rfl, by omega, rfl⟩
        clear hds hdg
        go_wp2
        go_roundw
        case rel => exact HREL.out
        case measure => simp [intOf]

end Go.Proofs.Qxb6600715aDoor
