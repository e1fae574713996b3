/-
  Seat b6601221aD: bytes in memory; the law's guards, comparing, the exponent's value. By an AI agent (seat 043).
-/
import Derived.Test.Qxb6601221aDoorRows
import Derived.WalkKit
import Derived.WalkSpells
import Derived.WalkLawsBesides
import Derived.Handy
import Derived.BigQuiet
import Derived.Laws.CopyOwn
import Derived.Deep.Cut
import Derived.Deep.DeepCutAuto
import Derived.Lib.AtoiAll
set_option linter.unusedSimpArgs false
set_option linter.unusedVariables false
namespace Go.Proofs.Qxb6601221aDoor
open Go.RowKit

/-- A slice of bytes in memory: the address, and the bytes that its cells hold. -/
def BAt (w : World) (a : Option Addr) (bs : List UInt8) : Prop :=
  ∀ k b, bs[k]? = some b → ∃ g off, a = some ⟨g, off, none⟩ ∧ w.cell? ⟨g, off + k, none⟩ = some (.int .u8 (b.toNat : Int))
theorem BAt.later {w w' : World} {a : Option Addr} {bs : List UInt8} (h : BAt w a bs) (hb : Below w.heap.size w w') : BAt w' a bs := by
  intro k s hk
  obtain ⟨b, off, ha, hc⟩ := h k s hk
  exact ⟨b, off, ha, cell_later hb hc⟩
theorem BAt.nil (w : World) (a : Option Addr) : BAt w a [] := fun k b h => by simp at h

def byteVals (bs : List UInt8) : List Value := bs.map fun b => .int .u8 (b.toNat : Int)
theorem byteVals_len (bs : List UInt8) : (byteVals bs).length = bs.length := by simp [byteVals]
theorem byteVals_app (a b : List UInt8) : byteVals (a ++ b) = byteVals a ++ byteVals b := by simp [byteVals]

theorem info5 : (Tryd.prog.info? 5).map (fun i => (i.zero, i.size, i.bytes)) = some (some (.int .u8 0), 1, 1) := by kernel_rfl
theorem size5 : (Tryd.prog.info? 5).map (·.size) = some 1 := by kernel_rfl

theorem byteVals_get {bs : List UInt8} {k : Nat} {b : UInt8} (h : bs[k]? = some b) : (byteVals bs)[k]? = some (.int .u8 (b.toNat : Int)) := by simp [byteVals, h]
theorem BAt.of_owns {w : World} {base : Nat} {v : Value} {bs : List UInt8} (h : w.ownsRow base 5 1 v bs.length (byteVals bs)) : ∃ a cap, v = .slice a bs.length cap ∧ bs.length ≤ cap ∧ cap ≤ 9223372036854775807 ∧ BAt w a bs := by
  rcases h.2 with ⟨rfl, h0⟩ | ⟨g, cap, cur, rfl, hb, hg, hnc, hcm, hcs, htake⟩
  · have hb : bs = [] := List.eq_nil_of_length_eq_zero h0
    subst hb
    exact ⟨none, 0, rfl, Nat.le_refl _, by omega, BAt.nil _ _⟩
  · refine ⟨_, cap, rfl, hnc, hcm, fun k b hk => ⟨g, 0, rfl, ?_⟩⟩
    have hl := (List.getElem?_eq_some_iff.1 hk).1
    rw [Nat.zero_add, h.cellAt k (by omega)]
    exact byteVals_get hk
theorem owns_of_block {w : World} {base g n : Nat} {xs : List Value} (hl : xs.length = n) (hb : base ≤ g) (hm : n ≤ maxLen) (h : w.heap[g]? = some (.cells xs.toArray 5 (0, 0))) : w.ownsRow base 5 1 (.slice (some ⟨g, 0, none⟩) n n) n xs :=
  ⟨by omega, .inr ⟨g, n, xs.toArray, rfl, hb, h, Nat.le_refl _, hm, by simp [hl], by simp [← hl]⟩⟩
theorem made_block {w : World} {base g n : Nat} {xs : List Value} (h : w.ownsRow base 5 1 (.slice (some ⟨g, 0, none⟩) n n) n xs) : w.heap[g]? = some (.cells xs.toArray 5 (0, 0)) ∧ xs.length = n := by
  refine ⟨?_, by have := h.1; omega⟩
  rcases h.2 with ⟨h', _⟩ | ⟨g', cap, cur, h', hb, hg, hnc, hcm, hcs, htake⟩
  · simp at h'
  · simp only [Value.slice.injEq, Option.some.injEq, Addr.mk.injEq, and_true, true_and] at h'
    obtain ⟨rfl, rfl⟩ := h'
    rw [hg, ← htake]
    have e : cur.toList.take (n * 1) = cur.toList := List.take_of_length_le (by simp; omega)
    rw [e]
theorem splice_all {α : Type} (L cs : List α) (h : L.length = cs.length) : splice L 0 cs = cs := by
  simp [splice, h]
/-- The source of a copy. -/
theorem BAt.src {w : World} {ad : Addr} {bs : List UInt8} (h : BAt w (some ad) bs) : ∀ (j : Nat) (v : Value), (byteVals bs)[j]? = some v → w.cell? (ad.add j) = some v := by
  intro j v hv
  have hj := (List.getElem?_eq_some_iff.1 hv).1
  rw [byteVals_len] at hj
  have hb : bs[j]? = some (bs[j]) := by simp [hj]
  rw [byteVals_get hb] at hv
  cases hv
  obtain ⟨g, off, ha, hc⟩ := h j _ hb
  cases ha
  have e : (⟨g, off, none⟩ : Addr).add j = ⟨g, off + j, none⟩ := by
    unfold Addr.add
    split
    · rename_i h0; simp [h0]
    · rfl
  rw [e]
  exact hc
theorem bytes_one (bs : List UInt8) : ∀ v ∈ byteVals bs, v.oneCell' = true := by
  intro v hv
  simp only [byteVals, List.mem_map] at hv
  obtain ⟨b, _, rfl⟩ := hv
  rfl

theorem owns_later {w w' : World} {base : Nat} {e : TypeId} {size : Nat} {v : Value} {n : Nat} {xs : List Value} (h : w.ownsRow base e size v n xs) (hb : Below w.heap.size w w') : w'.ownsRow base e size v n xs := by
  refine ⟨h.1, ?_⟩
  rcases h.2 with hn | ⟨g, cap, cur, rfl, hbb, hgg, rest⟩
  · exact .inl hn
  · refine .inr ⟨g, cap, cur, rfl, hbb, ?_, rest⟩
    rw [hb.block g (Array.getElem?_eq_some_iff.1 hgg).1]
    exact hgg
theorem below_step {a b c : World} (h : Below a.heap.size a b) (k : Below b.heap.size b c) : Below a.heap.size a c := h.trans (k.mono h.size)

/-- A row of bytes that the call owns. -/
abbrev OwnB (w : World) (B : Nat) (v : Value) (bs : List UInt8) : Prop := w.ownsRow B 5 1 v bs.length (byteVals bs)

/-- The call hands back some bool. -/
def SomeBool (e : Ending) : Prop := ∃ r : Bool, e = .returned (.bool r)

set_option maxHeartbeats 400000 in
theorem zzBytes4_any (a0 a1 a2 : Option Addr) (n0 n1 n2 c0 c1 c2 : Nat) (w : World) :
    Calls Tryd.prog 4 #[.slice a0 n0 c0, .slice a1 n1 c1, .slice a2 n2 c2] w fun e w' => SomeBool e ∧ w' = w := by
  go_enter Tryd.func4, Tryd.ntmps4
  go_wp2
  all_goals (go_ret; exact ⟨⟨_, rfl⟩, rfl⟩)

/-- A walk over bytes that only draws. -/
def QRel (xs ys : List UInt8) (w : World) (v : Value) (wr : World) : Prop := ∃ k : Nat, k ≤ xs.length ∧ v = .int .i64 (k : Int) ∧ xs.take k = ys.take k ∧ ∃ m, wr = w.drewN m
def SameB (b : Bool) (w : World) (e : Ending) (w' : World) : Prop := e = .returned (.bool b) ∧ ∃ m, w' = w.drewN m

set_option maxRecDepth 100000 in
set_option maxHeartbeats 1000000 in
theorem same_any (a c : Option Addr) (ca cc : Nat) (xs ys : List UInt8) (w : World) (hx : xs.length ≤ 16777216) (hy : ys.length ≤ 16777216) (ha : BAt w a xs) (hc : BAt w c ys) :
    Calls Tryd.prog 8 #[.slice a xs.length ca, .slice c ys.length cc] w fun e w' => SameB (decide (xs = ys)) w e w' := by
  by_cases hlen : xs.length = ys.length
  · go_enter Tryd.func8, Tryd.ntmps8
    have d0 : ((xs.length : Int) != (ys.length : Int)) = false := by simp [hlen]
    have HL : Hid (xs.length = ys.length) := hlen
    clear hlen
    go_wp2
    go_loopw [5] (fun v wr => QRel xs ys w v wr) (fun v _ => xs.length - (intOf v).toNat)
    case atStart => exact ⟨0, Nat.zero_le _, rfl, rfl, 0, rfl⟩
    case round =>
      rename World => W0
      clear d0
      obtain ⟨k, hk, rfl, hpre, nd, hW0⟩ := hrel
      have hlen := HL.out
      by_cases hlt : k < xs.length
      · have hxk : xs[k]? = some (xs[k]) := by simp [hlt]
        have hyk : ys[k]? = some (ys[k]'(by omega)) := by simp
        generalize xs[k] = x at *
        generalize ys[k]'(by omega) = y at *
        obtain ⟨g1, o1, rfl, c1⟩ := ha k x hxk
        obtain ⟨g2, o2, rfl, c2⟩ := hc k y hyk
        have c1' : W0.cell? ⟨g1, o1 + k, none⟩ = some (.int .u8 (x.toNat : Int)) := by rw [hW0]; exact c1
        have c2' : W0.cell? ⟨g2, o2 + k, none⟩ = some (.int .u8 (y.toNat : Int)) := by rw [hW0]; exact c2
        have i1 : (k : Int) < (xs.length : Int) := by omega
        have i2 : (k : Int) < (ys.length : Int) := by omega
        have i3 : (0 : Int) ≤ (k : Int) := by omega
        by_cases hxy : x = y
        · subst hxy
          have HREL : Hid (xs.take (k + 1) = ys.take (k + 1)) := by
            show _ = _
            rw [List.take_add_one, List.take_add_one, hxk, hyk, hpre]
          have bb : ((x.toNat : Int) != (x.toNat : Int)) = false := by simp
          have HW : Hid (W0 = w.drewN nd) := hW0
          clear hW0 hpre hxk hyk c1 c2 hlen
          go_wp2
          go_quiet (fail)
          go_wp2
          go_roundw
          case rel => exact ⟨k + 1, by omega, by go_num, HREL.out, nd + nq, by rw [HW.out]; exact World.drewN_drewN _ _ _⟩
          case measure => simp [intOf]; omega
        · have bb : ((x.toNat : Int) != (y.toNat : Int)) = true := by
            rw [bne_iff_ne]
            intro e
            exact hxy (UInt8.toNat_inj.1 (by omega))
          have HFIN : Hid (decide (xs = ys) = false) := by
            show _ = _
            rw [decide_eq_false_iff_not]
            rintro rfl
            rw [hxk] at hyk
            cases hyk
            exact hxy rfl
          have HW : Hid (W0 = w.drewN nd) := hW0
          clear hW0 hpre hxk hyk c1 c2 hlen hxy
          go_wp2
          go_quiet (fail)
          go_wp2
          go_ret
          exact ⟨by rw [HFIN.out]; try rfl, nd + nq, by rw [HW.out]; exact World.drewN_drewN _ _ _⟩
      · have hkn : k = xs.length := by omega
        subst hkn
        have HFIN : Hid (decide (xs = ys) = true) := by
          show _ = _
          rw [List.take_length, hlen, List.take_length] at hpre
          rw [hpre]
          simp
        have HW : Hid (W0 = w.drewN nd) := hW0
        clear hW0 hpre hlen
        go_wp2
        go_ret
        exact ⟨by rw [HFIN.out]; try rfl, nd, HW.out⟩
  · go_enter Tryd.func8, Tryd.ntmps8
    have d0 : ((xs.length : Int) != (ys.length : Int)) = true := by rw [bne_iff_ne]; omega
    have HFIN : Hid (decide (xs = ys) = false) := by
      show _ = _
      rw [decide_eq_false_iff_not]
      rintro rfl
      exact hlen rfl
    go_wp2
    go_ret
    exact ⟨by rw [HFIN.out]; try rfl, 0, rfl⟩

def isDig (b : UInt8) : Bool := decide (48 ≤ b.toNat) && decide (b.toNat ≤ 57)
def ARel (d : List UInt8) (i : Value) : Prop := ∃ k : Nat, k ≤ d.length ∧ i = .int .i64 (k : Int) ∧ (d.take k).all isDig = true

set_option maxRecDepth 100000 in
set_option maxHeartbeats 1000000 in
theorem digits_any (a : Option Addr) (cap : Nat) (d : List UInt8) (w : World) (hl : d.length ≤ 65536) (hs : BAt w a d) : Calls Tryd.prog 5 #[.slice a d.length cap] w fun e w' => e = .returned (.bool (d.all isDig)) ∧ w' = w := by
  go_enter Tryd.func5, Tryd.ntmps5
  go_wp2
  go_loop [3] (fun i => ARel d i) (fun i => d.length - (intOf i).toNat)
  case atStart => exact ⟨0, Nat.zero_le _, rfl, rfl⟩
  case round =>
    obtain ⟨k, hk, rfl, ha⟩ := hrel
    by_cases hlt : k < d.length
    · have hdk : d[k]? = some (d[k]) := by simp [hlt]
      generalize d[k] = c at *
      obtain ⟨g, o, rfl, hcell⟩ := hs k c hdk
      have i1 : (k : Int) < (d.length : Int) := by omega
      have i3 : (0 : Int) ≤ (k : Int) := by omega
      by_cases hc : isDig c = true
      · have hc' := hc
        unfold isDig at hc'
        rw [Bool.and_eq_true, decide_eq_true_eq, decide_eq_true_eq] at hc'
        have c1 : decide ((c.toNat : Int) < 48) = false := by simp; omega
        have c2 : decide ((57 : Int) < (c.toNat : Int)) = false := by simp; omega
        have HREL : Hid (ARel d (.int .i64 ((k + 1 : Nat) : Int))) := by
          refine ⟨k + 1, by omega, rfl, ?_⟩
          rw [List.take_add_one, hdk, List.all_append, ha]
          simp [hc]
        clear ha hc hdk hc'
        go_wp2
        go_round
        case rel => exact HREL.out
        case measure => simp [intOf]; omega
      · have hf : d.all isDig = false := by
          rw [List.all_eq_false]
          exact ⟨c, List.mem_of_getElem? hdk, hc⟩
        have HF : Hid _ := hf
        have hc' : ¬ (48 ≤ c.toNat ∧ c.toNat ≤ 57) := by
          intro h
          apply hc
          unfold isDig
          simp [h.1, h.2]
        clear ha hc hdk hf
        by_cases h48 : c.toNat < 48
        · have c1 : decide ((c.toNat : Int) < 48) = true := by simp; omega
          clear hc' h48
          go_wp2
          go_ret
          exact ⟨by rw [HF.out]; try rfl, rfl⟩
        · have c1 : decide ((c.toNat : Int) < 48) = false := by simp; omega
          have c2 : decide ((57 : Int) < (c.toNat : Int)) = true := by simp; omega
          clear hc' h48
          go_wp2
          go_ret
          exact ⟨by rw [HF.out]; try rfl, rfl⟩
    · have hkn : k = d.length := by omega
      subst hkn
      rw [List.take_length] at ha
      have HF : Hid _ := ha
      clear ha
      go_wp2
      go_ret
      exact ⟨by rw [HF.out]; try rfl, rfl⟩

/-- What zzExpValue says of the exponent. -/
def ExpV (x : List UInt8) (v : Int) : Prop := -1073741824 ≤ v ∧ v ≤ 1073741824 ∧ ((x = [] ∧ v = 0) ∨ (x ≠ [] ∧ Lib.atoiAll x = .ok v))
def ExpRes (x : List UInt8) (w : World) (e : Ending) (w' : World) : Prop :=
  w' = w ∧ (e = .returned (.tuple #[.int .i64 0, .bool false]) ∨ ∃ v, e = .returned (.tuple #[.int .i64 v, .bool true]) ∧ ExpV x v)
/-- Behind the sign. -/
def sgn (x : List UInt8) : List UInt8 := match x with | [] => [] | c :: r => if c.toNat = 43 ∨ c.toNat = 45 then r else c :: r
def ngE (x : List UInt8) : Bool := match x with | [] => false | c :: _ => decide (c.toNat = 45)
theorem sgn_len (x : List UInt8) : (sgn x).length ≤ x.length := by
  cases x with
  | nil => exact Nat.le_refl _
  | cons c r =>
    unfold sgn
    simp only
    split
    · simp
    · exact Nat.le_refl _
theorem sgn_drop (x : List UInt8) : x.drop (x.length - (sgn x).length) = sgn x := by
  cases x with
  | nil => rfl
  | cons c r =>
    unfold sgn
    simp only
    split
    · simp
    · simp
theorem expV_of (x : List UInt8) (u : Nat) (hx : sgn x ≠ []) (h : Lib.parseUint10 0 (sgn x) = .ok u) (hu : u ≤ 1073741824) : ExpV x (if ngE x then -(u : Int) else u) := by
  refine ⟨by split <;> omega, by split <;> omega, .inr ?_⟩
  cases x with
  | nil => exact absurd rfl hx
  | cons c r =>
    refine ⟨by simp, ?_⟩
    unfold Lib.atoiAll Lib.parseMag
    simp only
    have e : (if c.toNat = 43 ∨ c.toNat = 45 then r else c :: r) = sgn (c :: r) := rfl
    rw [e, if_neg hx, h]
    simp only [ngE, decide_eq_true_eq]
    rw [if_neg (by omega), if_neg (by omega)]
def ERel (x : List UInt8) (k v : Value) : Prop :=
  ∃ (j u : Nat), j ≤ x.length ∧ x.length - (sgn x).length ≤ j ∧ k = .int .i64 (j : Int) ∧ v = .int .i64 (u : Int) ∧ u ≤ 1073741824 ∧ Lib.parseUint10 0 (sgn x) = Lib.parseUint10 u (x.drop j)
/-- Ahead of the digits. -/
def ECut (x : List UInt8) (w : World) (v4 v5 : Value) (wx : World) : Prop := v4 = .int .i64 ((x.length - (sgn x).length : Nat) : Int) ∧ v5 = .bool (ngE x) ∧ wx = w

set_option maxRecDepth 100000 in
set_option maxHeartbeats 4000000 in
theorem exp_any (a : Option Addr) (cap : Nat) (x : List UInt8) (w : World) (hl : x.length ≤ 65536) (hs : BAt w a x) : Calls Tryd.prog 6 #[.slice a x.length cap] w fun e w' => ExpRes x w e w' := by
  cases hx : x with
  | nil =>
    go_enter Tryd.func6, Tryd.ntmps6
    go_wp2
    go_ret2
    exact ⟨rfl, .inr ⟨0, rfl, by omega, by omega, .inl ⟨rfl, rfl⟩⟩⟩
  | cons c r =>
    have hx0 : x[0]? = some c := by rw [hx]; rfl
    rw [← hx]
    have hlen : x.length = r.length + 1 := by rw [hx]; rfl
    have HSG : Hid (sgn x = if c.toNat = 43 ∨ c.toNat = 45 then r else c :: r) := by
      show _ = _
      rw [hx]; rfl
    have HNG : Hid (ngE x = decide (c.toNat = 45)) := by
      show _ = _
      rw [hx]; rfl
    clear hx
    obtain ⟨g, o, rfl, hc0⟩ := hs 0 c hx0
    rw [Nat.add_zero] at hc0
    have z0 : ((x.length : Int) == 0) = false := by rw [beq_eq_false_iff_ne]; omega
    have p0 : (0 : Int) < (x.length : Int) := by omega
    have HLEN : Hid (x.length = r.length + 1) := hlen
    have hsl := sgn_len x
    clear hx0 hlen
    go_enter Tryd.func6, Tryd.ntmps6
    have HC : Hid (∃ s1 s2 : Bool, s1 = ((c.toNat : Int) == 43) ∧ s2 = ((c.toNat : Int) == 45)) := ⟨_, _, rfl, rfl⟩
    obtain ⟨s1, s2, e1, e2⟩ := HC.out
    have e1' := e1.symm
    have e2' := e2.symm
    have HC2 : Hid (sgn x = (if s1 || s2 then r else c :: r) ∧ ngE x = s2) := by
      show _ ∧ _
      have t1 : s1 = true ↔ c.toNat = 43 := by rw [e1, beq_iff_eq]; omega
      have t2 : s2 = true ↔ c.toNat = 45 := by rw [e2, beq_iff_eq]; omega
      refine ⟨?_, ?_⟩
      · rw [HSG.out]
        simp only [Bool.or_eq_true, t1, t2]
      · rw [HNG.out]
        cases hs2 : s2 with
        | true => simp [t2.1 hs2]
        | false =>
          have : ¬ c.toNat = 45 := fun h => by rw [t2.2 h] at hs2; cases hs2
          simp [this]
    clear e1 e2 HC HSG HNG
    cases s1 <;> cases s2
    · go_upto_if 21 with fail
      go_cut [4, 5] (fun v4 v5 wx => ECut x w v4 v5 wx)
      case first =>
        have hk : x.length - (sgn x).length = if false || false then 1 else 0 := by
          rw [HC2.out.1, HLEN.out]
          simp
        have HREL : Hid (ECut x w (.int .i64 ((if false || false then 1 else 0 : Nat) : Int)) (.bool false) w) := ⟨by rw [hk], by rw [HC2.out.2], rfl⟩
        clear hk HC2 HLEN hsl
        go_wp2
        go_meet
        exact HREL.out
      case rest =>
        obtain ⟨rfl, rfl, rfl⟩ := hcut
        rename World => w
        have HSG : Hid (x.drop (x.length - (sgn x).length) = sgn x) := sgn_drop x
        obtain ⟨j0, hj0⟩ : ∃ j0, j0 = x.length - (sgn x).length := ⟨_, rfl⟩
        rw [← hj0]
        rw [← hj0] at HSG
        have HJ : Hid (j0 = x.length - (sgn x).length) := hj0
        have hj0l : j0 ≤ x.length := by omega
        clear hc0 z0 p0 e1' e2' HC2
        by_cases hem : j0 = x.length
        · have z1 : ((j0 : Int) == (x.length : Int)) = true := by rw [beq_iff_eq]; omega
          clear hj0 hem
          go_wp2
          go_ret2
          exact ⟨rfl, .inl rfl⟩
        · have z1 : ((j0 : Int) == (x.length : Int)) = false := by rw [beq_eq_false_iff_ne]; omega
          have HNE : Hid (sgn x ≠ []) := by
            show _ ≠ _
            intro h
            rw [h] at hj0
            simp at hj0
            exact hem hj0
          clear hj0 hem hsl
          go_wp2
          go_loop [4, 6, 7, 8] (fun k v _ _ => ERel x k v) (fun k _ _ _ => x.length - (intOf k).toNat)
          case atStart => exact ⟨j0, 0, hj0l, by rw [← HJ.out]; exact Nat.le_refl _, rfl, rfl, by omega, by rw [HSG.out]⟩
          case round =>
            clear z1
            obtain ⟨j, u, hj, hj0', rfl, rfl, hu, hpar⟩ := hrel
            by_cases hlt : j < x.length
            · have hxj : x[j]? = some (x[j]) := by simp [hlt]
              have hdrop : x.drop j = x[j] :: x.drop (j + 1) := List.drop_eq_getElem_cons hlt
              generalize x[j] = b at *
              obtain ⟨g', o', eg, hcell⟩ := hs j b hxj
              cases eg
              have i1 : (j : Int) < (x.length : Int) := by omega
              have i3 : (0 : Int) ≤ (j : Int) := by omega
              rw [hdrop] at hpar
              have HP : Hid _ := hpar
              have HJ0 : Hid _ := hj0'
              clear hpar hdrop hxj hj0'
              have hb256 : b.toNat < 256 := b.toNat_lt
              by_cases hd : 48 ≤ b.toNat ∧ b.toNat ≤ 57
              · have c1 : decide ((b.toNat : Int) < 48) = false := by simp; omega
                have c2 : decide ((57 : Int) < (b.toNat : Int)) = false := by simp; omega
                have w1 : IntKind.u8.wrap ((b.toNat : Int) - 48) = ((b.toNat - 48 : Nat) : Int) := by rw [IntWalk.u8_in _ ⟨by omega, by omega⟩]; omega
                obtain ⟨dd, hdd⟩ : ∃ dd, dd = b.toNat - 48 := ⟨_, rfl⟩
                rw [← hdd] at w1
                have hd9 : dd ≤ 9 := by omega
                have w2 : IntKind.i64.wrap (1073741824 - (dd : Int)) = 1073741824 - (dd : Int) := IntWalk.i64_in _ ⟨by omega, by omega⟩
                have w0 : IntKind.i64.wrap (dd : Int) = (dd : Int) := IntWalk.i64_in _ ⟨by omega, by omega⟩
                by_cases hbig : ((1073741824 - (dd : Int)) / 10) < (u : Int)
                · have c3 : decide (Int.tdiv (1073741824 - (dd : Int)) 10 < (u : Int)) = true := by rw [Int.tdiv_eq_ediv_of_nonneg (by omega)]; simpa using hbig
                  have c3' : decide ((1073741824 - (dd : Int)) / 10 < (u : Int)) = true := by simpa using hbig
                  clear hbig hdd HP hd HSG HJ HNE
                  go_wp2
                  go_ret2
                  exact ⟨rfl, .inl rfl⟩
                · have c3 : decide (Int.tdiv (1073741824 - (dd : Int)) 10 < (u : Int)) = false := by rw [Int.tdiv_eq_ediv_of_nonneg (by omega)]; simpa using hbig
                  have c3' : decide ((1073741824 - (dd : Int)) / 10 < (u : Int)) = false := by simpa using hbig
                  have hnew : u * 10 + dd ≤ 1073741824 := by omega
                  have w3 : IntKind.i64.wrap ((u : Int) * 10) = (u : Int) * 10 := IntWalk.i64_in _ ⟨by omega, by omega⟩
                  have w4 : IntKind.i64.wrap ((u : Int) * 10 + (dd : Int)) = ((u * 10 + dd : Nat) : Int) := by rw [IntWalk.i64_in _ ⟨by omega, by omega⟩]; omega
                  have HREL : Hid (ERel x (.int .i64 ((j + 1 : Nat) : Int)) (.int .i64 ((u * 10 + dd : Nat) : Int))) := by
                    refine ⟨j + 1, u * 10 + dd, by omega, by have := HJ0.out; omega, rfl, rfl, hnew, ?_⟩
                    rw [HP.out]
                    conv => lhs; unfold Lib.parseUint10
                    rw [if_pos hd, if_neg (by omega), if_neg (by omega), hdd]
                  clear hbig hdd HP hd HSG HJ HNE hnew
                  go_wp2
                  go_round
                  case rel => exact HREL.out
                  case measure => simp [intOf]; omega
              · by_cases h48 : b.toNat < 48
                · have c1 : decide ((b.toNat : Int) < 48) = true := by simp; omega
                  clear hd h48 HP
                  go_wp2
                  go_ret2
                  exact ⟨rfl, .inl rfl⟩
                · have c1 : decide ((b.toNat : Int) < 48) = false := by simp; omega
                  have c2 : decide ((57 : Int) < (b.toNat : Int)) = true := by simp; omega
                  clear hd h48 HP
                  go_wp2
                  go_ret2
                  exact ⟨rfl, .inl rfl⟩
            · have hjn : j = x.length := by omega
              subst hjn
              rw [List.drop_length] at hpar
              have hE := expV_of x u HNE.out hpar hu
              generalize ngE x = ngx at *
              have HFIN : Hid (ExpRes x w (.returned (.tuple #[.int .i64 (if ngx then -(u : Int) else u), .bool true])) w) := ⟨rfl, .inr ⟨_, rfl, hE⟩⟩
              have w5 : IntKind.i64.wrap (-(u : Int)) = -(u : Int) := IntWalk.i64_in _ ⟨by omega, by omega⟩
              clear hE hpar HSG HJ HNE hj0'
              cases ngx
              all_goals (go_wp2; go_ret2; exact HFIN.out)
    · go_upto_if 21 with fail
      go_cut [4, 5] (fun v4 v5 wx => ECut x w v4 v5 wx)
      case first =>
        have hk : x.length - (sgn x).length = if false || true then 1 else 0 := by
          rw [HC2.out.1, HLEN.out]
          simp
        have HREL : Hid (ECut x w (.int .i64 ((if false || true then 1 else 0 : Nat) : Int)) (.bool true) w) := ⟨by rw [hk], by rw [HC2.out.2], rfl⟩
        clear hk HC2 HLEN hsl
        go_wp2
        go_meet
        exact HREL.out
      case rest =>
        obtain ⟨rfl, rfl, rfl⟩ := hcut
        rename World => w
        have HSG : Hid (x.drop (x.length - (sgn x).length) = sgn x) := sgn_drop x
        obtain ⟨j0, hj0⟩ : ∃ j0, j0 = x.length - (sgn x).length := ⟨_, rfl⟩
        rw [← hj0]
        rw [← hj0] at HSG
        have HJ : Hid (j0 = x.length - (sgn x).length) := hj0
        have hj0l : j0 ≤ x.length := by omega
        clear hc0 z0 p0 e1' e2' HC2
        by_cases hem : j0 = x.length
        · have z1 : ((j0 : Int) == (x.length : Int)) = true := by rw [beq_iff_eq]; omega
          clear hj0 hem
          go_wp2
          go_ret2
          exact ⟨rfl, .inl rfl⟩
        · have z1 : ((j0 : Int) == (x.length : Int)) = false := by rw [beq_eq_false_iff_ne]; omega
          have HNE : Hid (sgn x ≠ []) := by
            show _ ≠ _
            intro h
            rw [h] at hj0
            simp at hj0
            exact hem hj0
          clear hj0 hem hsl
          go_wp2
          go_loop [4, 6, 7, 8] (fun k v _ _ => ERel x k v) (fun k _ _ _ => x.length - (intOf k).toNat)
          case atStart => exact ⟨j0, 0, hj0l, by rw [← HJ.out]; exact Nat.le_refl _, rfl, rfl, by omega, by rw [HSG.out]⟩
          case round =>
            clear z1
            obtain ⟨j, u, hj, hj0', rfl, rfl, hu, hpar⟩ := hrel
            by_cases hlt : j < x.length
            · have hxj : x[j]? = some (x[j]) := by simp [hlt]
              have hdrop : x.drop j = x[j] :: x.drop (j + 1) := List.drop_eq_getElem_cons hlt
              generalize x[j] = b at *
              obtain ⟨g', o', eg, hcell⟩ := hs j b hxj
              cases eg
              have i1 : (j : Int) < (x.length : Int) := by omega
              have i3 : (0 : Int) ≤ (j : Int) := by omega
              rw [hdrop] at hpar
              have HP : Hid _ := hpar
              have HJ0 : Hid _ := hj0'
              clear hpar hdrop hxj hj0'
              have hb256 : b.toNat < 256 := b.toNat_lt
              by_cases hd : 48 ≤ b.toNat ∧ b.toNat ≤ 57
              · have c1 : decide ((b.toNat : Int) < 48) = false := by simp; omega
                have c2 : decide ((57 : Int) < (b.toNat : Int)) = false := by simp; omega
                have w1 : IntKind.u8.wrap ((b.toNat : Int) - 48) = ((b.toNat - 48 : Nat) : Int) := by rw [IntWalk.u8_in _ ⟨by omega, by omega⟩]; omega
                obtain ⟨dd, hdd⟩ : ∃ dd, dd = b.toNat - 48 := ⟨_, rfl⟩
                rw [← hdd] at w1
                have hd9 : dd ≤ 9 := by omega
                have w2 : IntKind.i64.wrap (1073741824 - (dd : Int)) = 1073741824 - (dd : Int) := IntWalk.i64_in _ ⟨by omega, by omega⟩
                have w0 : IntKind.i64.wrap (dd : Int) = (dd : Int) := IntWalk.i64_in _ ⟨by omega, by omega⟩
                by_cases hbig : ((1073741824 - (dd : Int)) / 10) < (u : Int)
                · have c3 : decide (Int.tdiv (1073741824 - (dd : Int)) 10 < (u : Int)) = true := by rw [Int.tdiv_eq_ediv_of_nonneg (by omega)]; simpa using hbig
                  have c3' : decide ((1073741824 - (dd : Int)) / 10 < (u : Int)) = true := by simpa using hbig
                  clear hbig hdd HP hd HSG HJ HNE
                  go_wp2
                  go_ret2
                  exact ⟨rfl, .inl rfl⟩
                · have c3 : decide (Int.tdiv (1073741824 - (dd : Int)) 10 < (u : Int)) = false := by rw [Int.tdiv_eq_ediv_of_nonneg (by omega)]; simpa using hbig
                  have c3' : decide ((1073741824 - (dd : Int)) / 10 < (u : Int)) = false := by simpa using hbig
                  have hnew : u * 10 + dd ≤ 1073741824 := by omega
                  have w3 : IntKind.i64.wrap ((u : Int) * 10) = (u : Int) * 10 := IntWalk.i64_in _ ⟨by omega, by omega⟩
                  have w4 : IntKind.i64.wrap ((u : Int) * 10 + (dd : Int)) = ((u * 10 + dd : Nat) : Int) := by rw [IntWalk.i64_in _ ⟨by omega, by omega⟩]; omega
                  have HREL : Hid (ERel x (.int .i64 ((j + 1 : Nat) : Int)) (.int .i64 ((u * 10 + dd : Nat) : Int))) := by
                    refine ⟨j + 1, u * 10 + dd, by omega, by have := HJ0.out; omega, rfl, rfl, hnew, ?_⟩
                    rw [HP.out]
                    conv => lhs; unfold Lib.parseUint10
                    rw [if_pos hd, if_neg (by omega), if_neg (by omega), hdd]
                  clear hbig hdd HP hd HSG HJ HNE hnew
                  go_wp2
                  go_round
                  case rel => exact HREL.out
                  case measure => simp [intOf]; omega
              · by_cases h48 : b.toNat < 48
                · have c1 : decide ((b.toNat : Int) < 48) = true := by simp; omega
                  clear hd h48 HP
                  go_wp2
                  go_ret2
                  exact ⟨rfl, .inl rfl⟩
                · have c1 : decide ((b.toNat : Int) < 48) = false := by simp; omega
                  have c2 : decide ((57 : Int) < (b.toNat : Int)) = true := by simp; omega
                  clear hd h48 HP
                  go_wp2
                  go_ret2
                  exact ⟨rfl, .inl rfl⟩
            · have hjn : j = x.length := by omega
              subst hjn
              rw [List.drop_length] at hpar
              have hE := expV_of x u HNE.out hpar hu
              generalize ngE x = ngx at *
              have HFIN : Hid (ExpRes x w (.returned (.tuple #[.int .i64 (if ngx then -(u : Int) else u), .bool true])) w) := ⟨rfl, .inr ⟨_, rfl, hE⟩⟩
              have w5 : IntKind.i64.wrap (-(u : Int)) = -(u : Int) := IntWalk.i64_in _ ⟨by omega, by omega⟩
              clear hE hpar HSG HJ HNE hj0'
              cases ngx
              all_goals (go_wp2; go_ret2; exact HFIN.out)
    · go_upto_if 21 with fail
      go_cut [4, 5] (fun v4 v5 wx => ECut x w v4 v5 wx)
      case first =>
        have hk : x.length - (sgn x).length = if true || false then 1 else 0 := by
          rw [HC2.out.1, HLEN.out]
          simp
        have HREL : Hid (ECut x w (.int .i64 ((if true || false then 1 else 0 : Nat) : Int)) (.bool false) w) := ⟨by rw [hk], by rw [HC2.out.2], rfl⟩
        clear hk HC2 HLEN hsl
        go_wp2
        go_meet
        exact HREL.out
      case rest =>
        obtain ⟨rfl, rfl, rfl⟩ := hcut
        rename World => w
        have HSG : Hid (x.drop (x.length - (sgn x).length) = sgn x) := sgn_drop x
        obtain ⟨j0, hj0⟩ : ∃ j0, j0 = x.length - (sgn x).length := ⟨_, rfl⟩
        rw [← hj0]
        rw [← hj0] at HSG
        have HJ : Hid (j0 = x.length - (sgn x).length) := hj0
        have hj0l : j0 ≤ x.length := by omega
        clear hc0 z0 p0 e1' e2' HC2
        by_cases hem : j0 = x.length
        · have z1 : ((j0 : Int) == (x.length : Int)) = true := by rw [beq_iff_eq]; omega
          clear hj0 hem
          go_wp2
          go_ret2
          exact ⟨rfl, .inl rfl⟩
        · have z1 : ((j0 : Int) == (x.length : Int)) = false := by rw [beq_eq_false_iff_ne]; omega
          have HNE : Hid (sgn x ≠ []) := by
            show _ ≠ _
            intro h
            rw [h] at hj0
            simp at hj0
            exact hem hj0
          clear hj0 hem hsl
          go_wp2
          go_loop [4, 6, 7, 8] (fun k v _ _ => ERel x k v) (fun k _ _ _ => x.length - (intOf k).toNat)
          case atStart => exact ⟨j0, 0, hj0l, by rw [← HJ.out]; exact Nat.le_refl _, rfl, rfl, by omega, by rw [HSG.out]⟩
          case round =>
            clear z1
            obtain ⟨j, u, hj, hj0', rfl, rfl, hu, hpar⟩ := hrel
            by_cases hlt : j < x.length
            · have hxj : x[j]? = some (x[j]) := by simp [hlt]
              have hdrop : x.drop j = x[j] :: x.drop (j + 1) := List.drop_eq_getElem_cons hlt
              generalize x[j] = b at *
              obtain ⟨g', o', eg, hcell⟩ := hs j b hxj
              cases eg
              have i1 : (j : Int) < (x.length : Int) := by omega
              have i3 : (0 : Int) ≤ (j : Int) := by omega
              rw [hdrop] at hpar
              have HP : Hid _ := hpar
              have HJ0 : Hid _ := hj0'
              clear hpar hdrop hxj hj0'
              have hb256 : b.toNat < 256 := b.toNat_lt
              by_cases hd : 48 ≤ b.toNat ∧ b.toNat ≤ 57
              · have c1 : decide ((b.toNat : Int) < 48) = false := by simp; omega
                have c2 : decide ((57 : Int) < (b.toNat : Int)) = false := by simp; omega
                have w1 : IntKind.u8.wrap ((b.toNat : Int) - 48) = ((b.toNat - 48 : Nat) : Int) := by rw [IntWalk.u8_in _ ⟨by omega, by omega⟩]; omega
                obtain ⟨dd, hdd⟩ : ∃ dd, dd = b.toNat - 48 := ⟨_, rfl⟩
                rw [← hdd] at w1
                have hd9 : dd ≤ 9 := by omega
                have w2 : IntKind.i64.wrap (1073741824 - (dd : Int)) = 1073741824 - (dd : Int) := IntWalk.i64_in _ ⟨by omega, by omega⟩
                have w0 : IntKind.i64.wrap (dd : Int) = (dd : Int) := IntWalk.i64_in _ ⟨by omega, by omega⟩
                by_cases hbig : ((1073741824 - (dd : Int)) / 10) < (u : Int)
                · have c3 : decide (Int.tdiv (1073741824 - (dd : Int)) 10 < (u : Int)) = true := by rw [Int.tdiv_eq_ediv_of_nonneg (by omega)]; simpa using hbig
                  have c3' : decide ((1073741824 - (dd : Int)) / 10 < (u : Int)) = true := by simpa using hbig
                  clear hbig hdd HP hd HSG HJ HNE
                  go_wp2
                  go_ret2
                  exact ⟨rfl, .inl rfl⟩
                · have c3 : decide (Int.tdiv (1073741824 - (dd : Int)) 10 < (u : Int)) = false := by rw [Int.tdiv_eq_ediv_of_nonneg (by omega)]; simpa using hbig
                  have c3' : decide ((1073741824 - (dd : Int)) / 10 < (u : Int)) = false := by simpa using hbig
                  have hnew : u * 10 + dd ≤ 1073741824 := by omega
                  have w3 : IntKind.i64.wrap ((u : Int) * 10) = (u : Int) * 10 := IntWalk.i64_in _ ⟨by omega, by omega⟩
                  have w4 : IntKind.i64.wrap ((u : Int) * 10 + (dd : Int)) = ((u * 10 + dd : Nat) : Int) := by rw [IntWalk.i64_in _ ⟨by omega, by omega⟩]; omega
                  have HREL : Hid (ERel x (.int .i64 ((j + 1 : Nat) : Int)) (.int .i64 ((u * 10 + dd : Nat) : Int))) := by
                    refine ⟨j + 1, u * 10 + dd, by omega, by have := HJ0.out; omega, rfl, rfl, hnew, ?_⟩
                    rw [HP.out]
                    conv => lhs; unfold Lib.parseUint10
                    rw [if_pos hd, if_neg (by omega), if_neg (by omega), hdd]
                  clear hbig hdd HP hd HSG HJ HNE hnew
                  go_wp2
                  go_round
                  case rel => exact HREL.out
                  case measure => simp [intOf]; omega
              · by_cases h48 : b.toNat < 48
                · have c1 : decide ((b.toNat : Int) < 48) = true := by simp; omega
                  clear hd h48 HP
                  go_wp2
                  go_ret2
                  exact ⟨rfl, .inl rfl⟩
                · have c1 : decide ((b.toNat : Int) < 48) = false := by simp; omega
                  have c2 : decide ((57 : Int) < (b.toNat : Int)) = true := by simp; omega
                  clear hd h48 HP
                  go_wp2
                  go_ret2
                  exact ⟨rfl, .inl rfl⟩
            · have hjn : j = x.length := by omega
              subst hjn
              rw [List.drop_length] at hpar
              have hE := expV_of x u HNE.out hpar hu
              generalize ngE x = ngx at *
              have HFIN : Hid (ExpRes x w (.returned (.tuple #[.int .i64 (if ngx then -(u : Int) else u), .bool true])) w) := ⟨rfl, .inr ⟨_, rfl, hE⟩⟩
              have w5 : IntKind.i64.wrap (-(u : Int)) = -(u : Int) := IntWalk.i64_in _ ⟨by omega, by omega⟩
              clear hE hpar HSG HJ HNE hj0'
              cases ngx
              all_goals (go_wp2; go_ret2; exact HFIN.out)
    · go_upto_if 21 with fail
      go_cut [4, 5] (fun v4 v5 wx => ECut x w v4 v5 wx)
      case first =>
        have hk : x.length - (sgn x).length = if true || true then 1 else 0 := by
          rw [HC2.out.1, HLEN.out]
          simp
        have HREL : Hid (ECut x w (.int .i64 ((if true || true then 1 else 0 : Nat) : Int)) (.bool true) w) := ⟨by rw [hk], by rw [HC2.out.2], rfl⟩
        clear hk HC2 HLEN hsl
        go_wp2
        go_meet
        exact HREL.out
      case rest =>
        obtain ⟨rfl, rfl, rfl⟩ := hcut
        rename World => w
        have HSG : Hid (x.drop (x.length - (sgn x).length) = sgn x) := sgn_drop x
        obtain ⟨j0, hj0⟩ : ∃ j0, j0 = x.length - (sgn x).length := ⟨_, rfl⟩
        rw [← hj0]
        rw [← hj0] at HSG
        have HJ : Hid (j0 = x.length - (sgn x).length) := hj0
        have hj0l : j0 ≤ x.length := by omega
        clear hc0 z0 p0 e1' e2' HC2
        by_cases hem : j0 = x.length
        · have z1 : ((j0 : Int) == (x.length : Int)) = true := by rw [beq_iff_eq]; omega
          clear hj0 hem
          go_wp2
          go_ret2
          exact ⟨rfl, .inl rfl⟩
        · have z1 : ((j0 : Int) == (x.length : Int)) = false := by rw [beq_eq_false_iff_ne]; omega
          have HNE : Hid (sgn x ≠ []) := by
            show _ ≠ _
            intro h
            rw [h] at hj0
            simp at hj0
            exact hem hj0
          clear hj0 hem hsl
          go_wp2
          go_loop [4, 6, 7, 8] (fun k v _ _ => ERel x k v) (fun k _ _ _ => x.length - (intOf k).toNat)
          case atStart => exact ⟨j0, 0, hj0l, by rw [← HJ.out]; exact Nat.le_refl _, rfl, rfl, by omega, by rw [HSG.out]⟩
          case round =>
            clear z1
            obtain ⟨j, u, hj, hj0', rfl, rfl, hu, hpar⟩ := hrel
            by_cases hlt : j < x.length
            · have hxj : x[j]? = some (x[j]) := by simp [hlt]
              have hdrop : x.drop j = x[j] :: x.drop (j + 1) := List.drop_eq_getElem_cons hlt
              generalize x[j] = b at *
              obtain ⟨g', o', eg, hcell⟩ := hs j b hxj
              cases eg
              have i1 : (j : Int) < (x.length : Int) := by omega
              have i3 : (0 : Int) ≤ (j : Int) := by omega
              rw [hdrop] at hpar
              have HP : Hid _ := hpar
              have HJ0 : Hid _ := hj0'
              clear hpar hdrop hxj hj0'
              have hb256 : b.toNat < 256 := b.toNat_lt
              by_cases hd : 48 ≤ b.toNat ∧ b.toNat ≤ 57
              · have c1 : decide ((b.toNat : Int) < 48) = false := by simp; omega
                have c2 : decide ((57 : Int) < (b.toNat : Int)) = false := by simp; omega
                have w1 : IntKind.u8.wrap ((b.toNat : Int) - 48) = ((b.toNat - 48 : Nat) : Int) := by rw [IntWalk.u8_in _ ⟨by omega, by omega⟩]; omega
                obtain ⟨dd, hdd⟩ : ∃ dd, dd = b.toNat - 48 := ⟨_, rfl⟩
                rw [← hdd] at w1
                have hd9 : dd ≤ 9 := by omega
                have w2 : IntKind.i64.wrap (1073741824 - (dd : Int)) = 1073741824 - (dd : Int) := IntWalk.i64_in _ ⟨by omega, by omega⟩
                have w0 : IntKind.i64.wrap (dd : Int) = (dd : Int) := IntWalk.i64_in _ ⟨by omega, by omega⟩
                by_cases hbig : ((1073741824 - (dd : Int)) / 10) < (u : Int)
                · have c3 : decide (Int.tdiv (1073741824 - (dd : Int)) 10 < (u : Int)) = true := by rw [Int.tdiv_eq_ediv_of_nonneg (by omega)]; simpa using hbig
                  have c3' : decide ((1073741824 - (dd : Int)) / 10 < (u : Int)) = true := by simpa using hbig
                  clear hbig hdd HP hd HSG HJ HNE
                  go_wp2
                  go_ret2
                  exact ⟨rfl, .inl rfl⟩
                · have c3 : decide (Int.tdiv (1073741824 - (dd : Int)) 10 < (u : Int)) = false := by rw [Int.tdiv_eq_ediv_of_nonneg (by omega)]; simpa using hbig
                  have c3' : decide ((1073741824 - (dd : Int)) / 10 < (u : Int)) = false := by simpa using hbig
                  have hnew : u * 10 + dd ≤ 1073741824 := by omega
                  have w3 : IntKind.i64.wrap ((u : Int) * 10) = (u : Int) * 10 := IntWalk.i64_in _ ⟨by omega, by omega⟩
                  have w4 : IntKind.i64.wrap ((u : Int) * 10 + (dd : Int)) = ((u * 10 + dd : Nat) : Int) := by rw [IntWalk.i64_in _ ⟨by omega, by omega⟩]; omega
                  have HREL : Hid (ERel x (.int .i64 ((j + 1 : Nat) : Int)) (.int .i64 ((u * 10 + dd : Nat) : Int))) := by
                    refine ⟨j + 1, u * 10 + dd, by omega, by have := HJ0.out; omega, rfl, rfl, hnew, ?_⟩
                    rw [HP.out]
                    conv => lhs; unfold Lib.parseUint10
                    rw [if_pos hd, if_neg (by omega), if_neg (by omega), hdd]
                  clear hbig hdd HP hd HSG HJ HNE hnew
                  go_wp2
                  go_round
                  case rel => exact HREL.out
                  case measure => simp [intOf]; omega
              · by_cases h48 : b.toNat < 48
                · have c1 : decide ((b.toNat : Int) < 48) = true := by simp; omega
                  clear hd h48 HP
                  go_wp2
                  go_ret2
                  exact ⟨rfl, .inl rfl⟩
                · have c1 : decide ((b.toNat : Int) < 48) = false := by simp; omega
                  have c2 : decide ((57 : Int) < (b.toNat : Int)) = true := by simp; omega
                  clear hd h48 HP
                  go_wp2
                  go_ret2
                  exact ⟨rfl, .inl rfl⟩
            · have hjn : j = x.length := by omega
              subst hjn
              rw [List.drop_length] at hpar
              have hE := expV_of x u HNE.out hpar hu
              generalize ngE x = ngx at *
              have HFIN : Hid (ExpRes x w (.returned (.tuple #[.int .i64 (if ngx then -(u : Int) else u), .bool true])) w) := ⟨rfl, .inr ⟨_, rfl, hE⟩⟩
              have w5 : IntKind.i64.wrap (-(u : Int)) = -(u : Int) := IntWalk.i64_in _ ⟨by omega, by omega⟩
              clear hE hpar HSG HJ HNE hj0'
              cases ngx
              all_goals (go_wp2; go_ret2; exact HFIN.out)

end Go.Proofs.Qxb6601221aDoor
