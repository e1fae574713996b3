/-
  Seat b6601132aD: bytes in memory; the laws' guards, cloning, comparing. By an AI agent (seat 043).
-/
import Derived.Test.Qxb6601132aDoorRows
import Derived.Test.Qxb6601132aDoorPl
import Derived.WalkKit
import Derived.WalkSpells
import Derived.WalkLawsBesides
import Derived.Handy
import Derived.BigQuiet
import Derived.Laws.CopyOwn
import Derived.Deep.Cut
import Derived.Deep.DeepCutAuto
set_option linter.unusedSimpArgs false
set_option linter.unusedVariables false
namespace Go.Proofs.Qxb6601132aDoor
open Go.RowKit

/-- A slice of bytes in memory: the address, and the bytes that its cells hold. -/
def BAt (w : World) (a : Option Addr) (bs : List UInt8) : Prop :=
  ∀ k b, bs[k]? = some b → ∃ g off, a = some ⟨g, off, none⟩ ∧ w.cell? ⟨g, off + k, none⟩ = some (.int .u8 (b.toNat : Int))
theorem BAt.later {w w' : World} {a : Option Addr} {bs : List UInt8} (h : BAt w a bs) (hb : Below w.heap.size w w') : BAt w' a bs := by
  intro k s hk
  obtain ⟨b, off, ha, hc⟩ := h k s hk
  exact ⟨b, off, ha, cell_later hb hc⟩
theorem BAt.nil (w : World) (a : Option Addr) : BAt w a [] := fun k b h => by simp at h

def byteVals (bs : List UInt8) : List Value := bs.map fun b => .int .u8 (b.toNat : Int)
theorem byteVals_len (bs : List UInt8) : (byteVals bs).length = bs.length := by simp [byteVals]
theorem byteVals_app (a b : List UInt8) : byteVals (a ++ b) = byteVals a ++ byteVals b := by simp [byteVals]

theorem info5 : (Tryd.prog.info? 5).map (fun i => (i.zero, i.size, i.bytes)) = some (some (.int .u8 0), 1, 1) := by kernel_rfl
theorem size5 : (Tryd.prog.info? 5).map (·.size) = some 1 := by kernel_rfl

theorem byteVals_get {bs : List UInt8} {k : Nat} {b : UInt8} (h : bs[k]? = some b) : (byteVals bs)[k]? = some (.int .u8 (b.toNat : Int)) := by simp [byteVals, h]
theorem BAt.of_owns {w : World} {base : Nat} {v : Value} {bs : List UInt8} (h : w.ownsRow base 5 1 v bs.length (byteVals bs)) : ∃ a cap, v = .slice a bs.length cap ∧ bs.length ≤ cap ∧ cap ≤ 9223372036854775807 ∧ BAt w a bs := by
  rcases h.2 with ⟨rfl, h0⟩ | ⟨g, cap, cur, rfl, hb, hg, hnc, hcm, hcs, htake⟩
  · have hb : bs = [] := List.eq_nil_of_length_eq_zero h0
    subst hb
    exact ⟨none, 0, rfl, Nat.le_refl _, by omega, BAt.nil _ _⟩
  · refine ⟨_, cap, rfl, hnc, hcm, fun k b hk => ⟨g, 0, rfl, ?_⟩⟩
    have hl := (List.getElem?_eq_some_iff.1 hk).1
    rw [Nat.zero_add, h.cellAt k (by omega)]
    exact byteVals_get hk
theorem owns_of_block {w : World} {base g n : Nat} {xs : List Value} (hl : xs.length = n) (hb : base ≤ g) (hm : n ≤ maxLen) (h : w.heap[g]? = some (.cells xs.toArray 5 (0, 0))) : w.ownsRow base 5 1 (.slice (some ⟨g, 0, none⟩) n n) n xs :=
  ⟨by omega, .inr ⟨g, n, xs.toArray, rfl, hb, h, Nat.le_refl _, hm, by simp [hl], by simp [← hl]⟩⟩
theorem made_block {w : World} {base g n : Nat} {xs : List Value} (h : w.ownsRow base 5 1 (.slice (some ⟨g, 0, none⟩) n n) n xs) : w.heap[g]? = some (.cells xs.toArray 5 (0, 0)) ∧ xs.length = n := by
  refine ⟨?_, by have := h.1; omega⟩
  rcases h.2 with ⟨h', _⟩ | ⟨g', cap, cur, h', hb, hg, hnc, hcm, hcs, htake⟩
  · simp at h'
  · simp only [Value.slice.injEq, Option.some.injEq, Addr.mk.injEq, and_true, true_and] at h'
    obtain ⟨rfl, rfl⟩ := h'
    rw [hg, ← htake]
    have e : cur.toList.take (n * 1) = cur.toList := List.take_of_length_le (by simp; omega)
    rw [e]
theorem splice_all {α : Type} (L cs : List α) (h : L.length = cs.length) : splice L 0 cs = cs := by
  simp [splice, h]
/-- The source of a copy. -/
theorem BAt.src {w : World} {ad : Addr} {bs : List UInt8} (h : BAt w (some ad) bs) : ∀ (j : Nat) (v : Value), (byteVals bs)[j]? = some v → w.cell? (ad.add j) = some v := by
  intro j v hv
  have hj := (List.getElem?_eq_some_iff.1 hv).1
  rw [byteVals_len] at hj
  have hb : bs[j]? = some (bs[j]) := by simp [hj]
  rw [byteVals_get hb] at hv
  cases hv
  obtain ⟨g, off, ha, hc⟩ := h j _ hb
  cases ha
  have e : (⟨g, off, none⟩ : Addr).add j = ⟨g, off + j, none⟩ := by
    unfold Addr.add
    split
    · rename_i h0; simp [h0]
    · rfl
  rw [e]
  exact hc
theorem bytes_one (bs : List UInt8) : ∀ v ∈ byteVals bs, v.oneCell' = true := by
  intro v hv
  simp only [byteVals, List.mem_map] at hv
  obtain ⟨b, _, rfl⟩ := hv
  rfl

theorem owns_later {w w' : World} {base : Nat} {e : TypeId} {size : Nat} {v : Value} {n : Nat} {xs : List Value} (h : w.ownsRow base e size v n xs) (hb : Below w.heap.size w w') : w'.ownsRow base e size v n xs := by
  refine ⟨h.1, ?_⟩
  rcases h.2 with hn | ⟨g, cap, cur, rfl, hbb, hgg, rest⟩
  · exact .inl hn
  · refine .inr ⟨g, cap, cur, rfl, hbb, ?_, rest⟩
    rw [hb.block g (Array.getElem?_eq_some_iff.1 hgg).1]
    exact hgg
theorem below_step {a b c : World} (h : Below a.heap.size a b) (k : Below b.heap.size b c) : Below a.heap.size a c := h.trans (k.mono h.size)

/-- A row of bytes that the call owns. -/
abbrev OwnB (w : World) (B : Nat) (v : Value) (bs : List UInt8) : Prop := w.ownsRow B 5 1 v bs.length (byteVals bs)

/-- The call hands back some bool. -/
def SomeBool (e : Ending) : Prop := ∃ r : Bool, e = .returned (.bool r)

set_option maxHeartbeats 400000 in
theorem zzBytes6_any (a0 : Option Addr) (n0 c0 : Nat) (s : ByteArray) (w : World) :
    Calls Tryd.prog 6 #[.slice a0 n0 c0, .string s] w fun e w' => SomeBool e ∧ w' = w := by
  go_enter Tryd.func6, Tryd.ntmps6
  go_wp2
  all_goals (go_ret; exact ⟨⟨_, rfl⟩, rfl⟩)
set_option maxHeartbeats 400000 in
theorem zzBytes11_any (a0 : Option Addr) (n0 c0 : Nat) (s : ByteArray) (w : World) :
    Calls Tryd.prog 11 #[.slice a0 n0 c0, .string s] w fun e w' => SomeBool e ∧ w' = w := by
  go_enter Tryd.func11, Tryd.ntmps11
  go_wp2
  all_goals (go_ret; exact ⟨⟨_, rfl⟩, rfl⟩)
set_option maxHeartbeats 400000 in
theorem zzBytes13_any (a0 : Option Addr) (n0 c0 : Nat) (s : ByteArray) (w : World) :
    Calls Tryd.prog 13 #[.slice a0 n0 c0, .string s] w fun e w' => SomeBool e ∧ w' = w := by
  go_enter Tryd.func13, Tryd.ntmps13
  go_wp2
  all_goals (go_ret; exact ⟨⟨_, rfl⟩, rfl⟩)

/-- A clone: a row of the call's own; nil where and only where the old one was. -/
def CloneB (w : World) (isNil : Bool) (bs : List UInt8) (x : Ending) (w' : World) : Prop :=
  ∃ v, x = .returned v ∧ OwnB w' w.heap.size v bs ∧ (v = .slice none 0 0 ↔ isNil = true) ∧ Below w.heap.size w w'
/-- The clone, filled up to k. -/
def fill (bs : List UInt8) (k : Nat) : List Value := byteVals (bs.take k) ++ List.replicate (bs.length - k) (Value.int .u8 0)
theorem fill_zero (bs : List UInt8) : fill bs 0 = List.replicate bs.length (Value.int .u8 0) := by simp [fill, byteVals]
theorem fill_all (bs : List UInt8) : fill bs bs.length = byteVals bs := by simp [fill]
theorem fill_set {bs : List UInt8} {k : Nat} {b : UInt8} (h : bs[k]? = some b) : (fill bs k).set k (.int .u8 (b.toNat : Int)) = fill bs (k + 1) := by
  have hk := (List.getElem?_eq_some_iff.1 h).1
  have e : bs.length - k = (bs.length - (k + 1)) + 1 := by omega
  unfold fill
  rw [e, List.replicate_succ, List.set_append_right _ _ (by simp [byteVals]; omega), List.take_add_one, h, byteVals_app]
  have e2 : k - (byteVals (bs.take k)).length = 0 := by simp [byteVals]; omega
  rw [e2, List.set_cons_zero, List.append_assoc]
  rfl
theorem fill_get {bs : List UInt8} {k : Nat} (hk : k < bs.length) : (fill bs k)[k]? = some (.int .u8 0) := by
  unfold fill
  rw [List.getElem?_append_right (by simp [byteVals]; omega)]
  have e2 : k - (byteVals (bs.take k)).length = 0 := by simp [byteVals]; omega
  rw [e2, List.getElem?_replicate, if_pos (by omega)]
def ORel (bs : List UInt8) (w : World) (i : Value) (wr : World) : Prop :=
  ∃ k : Nat, k ≤ bs.length ∧ i = .int .i64 (k : Int) ∧ wr.ownsRow w.heap.size 5 1 (.slice (some ⟨w.heap.size, 0, none⟩) bs.length bs.length) bs.length (fill bs k) ∧ Below w.heap.size w wr

set_option maxRecDepth 100000 in
set_option maxHeartbeats 1000000 in
theorem clone_any (a : Option Addr) (n cap : Nat) (bs : List UInt8) (w : World) (hn : bs.length = n) (hmax : n ≤ 16777216) (hnil : a = none → n = 0) (hs : BAt w a bs) :
    Calls Tryd.prog 7 #[.slice a n cap] w fun e w' => CloneB w a.isNone bs e w' := by
  have q22 : ∀ (w : World) (a : Option Addr) (n c n' c' : Nat), (binOp .eql 22 (.slice a n c) (.slice none n' c')).run Tryd.prog w = .ok (.bool a.isNone) w := fun w a n c n' c' => Lib.run_eql_slice_nil w _ _ a n c n' c' Tryd.underlying22
  obtain ⟨i0, hi, hz0, hz1, hz2⟩ := info_parts info5
  cases a with
  | none =>
    have h0 := hnil rfl
    subst h0
    have hss : bs = [] := List.eq_nil_of_length_eq_zero hn
    subst hss
    go_enter Tryd.func7, Tryd.ntmps7
    go_wp2
    go_ret
    exact ⟨_, rfl, World.ownsRow_nil _ _ _ _, ⟨fun _ => rfl, fun _ => rfl⟩, Below.refl _ _⟩
  | some ad =>
    subst hn
    go_enter Tryd.func7, Tryd.ntmps7
    go_wp2_with (at_make; refine wpList_make_full _ rfl _ _ 22 rfl w.heap.size 5 i0 (.int .u8 0) 1 Tryd.underlying22 hi hz0 hz1 .i64 .i64 _ _ bs.length rfl rfl rfl rfl (by rw [hz2]; omega) (by unfold maxLen; omega) (Nat.le_refl _) ?_; intro w1 hown hgrow; have hb1 : Below w.heap.size w w1 := (Below.refl _ _).grown hgrow (Nat.le_refl _) (fun k h => by cases h); clear hgrow)
    have hmade : (madeCells (Value.int .u8 0).cells (bs.length * 1)).toList = fill bs 0 := by
      rw [fill_zero, Nat.mul_one]
      exact toList_madeCells_one _ _
    rw [hmade] at hown
    clear hmade
    go_loopw [4] (fun i wr => ORel bs w i wr) (fun i _ => bs.length - (intOf i).toNat)
    case atStart => exact ⟨0, Nat.zero_le _, rfl, hown, hb1⟩
    case round =>
      rename World => W0
      clear hown hb1
      obtain ⟨k, hk, rfl, ho, hb⟩ := hrel
      by_cases hlt : k < bs.length
      · have hbk : bs[k]? = some (bs[k]) := by simp [hlt]
        generalize bs[k] = b at *
        obtain ⟨g, off, hg, hcell⟩ := hs.later hb k b hbk
        cases hg
        have hc0 : W0.cell? ⟨w.heap.size, k, none⟩ = some (.int .u8 0) := by rw [ho.cellAt k (by omega)]; exact fill_get hlt
        have hf0 := ho.frozenAt k
        have hst := ho.stored k (.int .u8 (b.toNat : Int))
        rw [fill_set hbk] at hst
        have HREL : Hid (ORel bs w (.int .i64 ((k + 1 : Nat) : Int)) (W0.setCell ⟨w.heap.size, k, none⟩ (.int .u8 (b.toNat : Int)))) := ⟨k + 1, by omega, rfl, hst.1, hb.grown hst.2 hb.size (fun g hg => by cases hg; exact Nat.le_refl _)⟩
        have i1 : (k : Int) < (bs.length : Int) := by omega
        have i3 : (0 : Int) ≤ (k : Int) := by omega
        clear ho hst hbk hb
        go_wp2
        go_roundw
        case rel => exact HREL.out
        case measure => simp [intOf]; omega
      · have hkn : k = bs.length := by omega
        subst hkn
        rw [fill_all] at ho
        have HFIN : Hid (CloneB w false bs (.returned (.slice (some ⟨w.heap.size, 0, none⟩) bs.length bs.length)) W0) := ⟨_, rfl, ho, ⟨(fun h => nomatch h), (fun h => nomatch h)⟩, hb⟩
        clear ho hb hs
        go_wp2
        go_ret
        exact HFIN.out

/-- A walk over bytes that only draws. -/
def QRel (xs ys : List UInt8) (w : World) (v : Value) (wr : World) : Prop := ∃ k : Nat, k ≤ xs.length ∧ v = .int .i64 (k : Int) ∧ xs.take k = ys.take k ∧ ∃ m, wr = w.drewN m
def SameB (b : Bool) (w : World) (e : Ending) (w' : World) : Prop := e = .returned (.bool b) ∧ ∃ m, w' = w.drewN m

set_option maxRecDepth 100000 in
set_option maxHeartbeats 1000000 in
theorem same_any (a c : Option Addr) (ca cc : Nat) (xs ys : List UInt8) (w : World) (hx : xs.length ≤ 16777216) (hy : ys.length ≤ 16777216) (ha : BAt w a xs) (hc : BAt w c ys) :
    Calls Tryd.prog 10 #[.slice a xs.length ca, .slice c ys.length cc] w fun e w' => SameB (decide (xs = ys)) w e w' := by
  by_cases hlen : xs.length = ys.length
  · go_enter Tryd.func10, Tryd.ntmps10
    have d0 : ((xs.length : Int) != (ys.length : Int)) = false := by simp [hlen]
    have HL : Hid (xs.length = ys.length) := hlen
    clear hlen
    go_wp2
    go_loopw [5] (fun v wr => QRel xs ys w v wr) (fun v _ => xs.length - (intOf v).toNat)
    case atStart => exact ⟨0, Nat.zero_le _, rfl, rfl, 0, rfl⟩
    case round =>
      rename World => W0
      clear d0
      obtain ⟨k, hk, rfl, hpre, nd, hW0⟩ := hrel
      have hlen := HL.out
      by_cases hlt : k < xs.length
      · have hxk : xs[k]? = some (xs[k]) := by simp [hlt]
        have hyk : ys[k]? = some (ys[k]'(by omega)) := by simp
        generalize xs[k] = x at *
        generalize ys[k]'(by omega) = y at *
        obtain ⟨g1, o1, rfl, c1⟩ := ha k x hxk
        obtain ⟨g2, o2, rfl, c2⟩ := hc k y hyk
        have c1' : W0.cell? ⟨g1, o1 + k, none⟩ = some (.int .u8 (x.toNat : Int)) := by rw [hW0]; exact c1
        have c2' : W0.cell? ⟨g2, o2 + k, none⟩ = some (.int .u8 (y.toNat : Int)) := by rw [hW0]; exact c2
        have i1 : (k : Int) < (xs.length : Int) := by omega
        have i2 : (k : Int) < (ys.length : Int) := by omega
        have i3 : (0 : Int) ≤ (k : Int) := by omega
        by_cases hxy : x = y
        · subst hxy
          have HREL : Hid (xs.take (k + 1) = ys.take (k + 1)) := by
            show _ = _
            rw [List.take_add_one, List.take_add_one, hxk, hyk, hpre]
          have bb : ((x.toNat : Int) != (x.toNat : Int)) = false := by simp
          have HW : Hid (W0 = w.drewN nd) := hW0
          clear hW0 hpre hxk hyk c1 c2 hlen
          go_wp2
          go_quiet (fail)
          go_wp2
          go_roundw
          case rel => exact ⟨k + 1, by omega, by go_num, HREL.out, nd + nq, by rw [HW.out]; exact World.drewN_drewN _ _ _⟩
          case measure => simp [intOf]; omega
        · have bb : ((x.toNat : Int) != (y.toNat : Int)) = true := by
            rw [bne_iff_ne]
            intro e
            exact hxy (UInt8.toNat_inj.1 (by omega))
          have HFIN : Hid (decide (xs = ys) = false) := by
            show _ = _
            rw [decide_eq_false_iff_not]
            rintro rfl
            rw [hxk] at hyk
            cases hyk
            exact hxy rfl
          have HW : Hid (W0 = w.drewN nd) := hW0
          clear hW0 hpre hxk hyk c1 c2 hlen hxy
          go_wp2
          go_quiet (fail)
          go_wp2
          go_ret
          exact ⟨by rw [HFIN.out]; try rfl, nd + nq, by rw [HW.out]; exact World.drewN_drewN _ _ _⟩
      · have hkn : k = xs.length := by omega
        subst hkn
        have HFIN : Hid (decide (xs = ys) = true) := by
          show _ = _
          rw [List.take_length, hlen, List.take_length] at hpre
          rw [hpre]
          simp
        have HW : Hid (W0 = w.drewN nd) := hW0
        clear hW0 hpre hlen
        go_wp2
        go_ret
        exact ⟨by rw [HFIN.out]; try rfl, nd, HW.out⟩
  · go_enter Tryd.func10, Tryd.ntmps10
    have d0 : ((xs.length : Int) != (ys.length : Int)) = true := by rw [bne_iff_ne]; omega
    have HFIN : Hid (decide (xs = ys) = false) := by
      show _ = _
      rw [decide_eq_false_iff_not]
      rintro rfl
      exact hlen rfl
    go_wp2
    go_ret
    exact ⟨by rw [HFIN.out]; try rfl, 0, rfl⟩

end Go.Proofs.Qxb6601132aDoor
